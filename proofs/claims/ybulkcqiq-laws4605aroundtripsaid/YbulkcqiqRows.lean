/-
  No cell of these rows narrows 'for every input' (looked for: loops, veiled, ifaces, maps, wideKeys, modest, calm, conditions, laid).
  DERIVED. THE GIVEN ROWS OF THIS SEAT. 2 by the template 'for every input the law returns true; each argument reads behind the call as it read before'; 0 by the template 'total and deterministic' (their statements: YbulkcqiqTotals.lean).
  GIVEN WITH THE SEED: the statements are not yours to turn. If you find one false, say at which input.
  Laid BY PROGRAM, IN A SANDBOX (cutbox-rows.mjs): the forced cells as the released guide's own fill.sh prints them over the translation 9b0e260707b668da… (all of the seat's roots in one cut). By AI agents, Wed Nov 11 2026. No macro, syntax, notation, axiom, sorry.
-/
import Derived.Test.YbulkcqiqChecked
import GoSem.Claim
import GoSem.ClaimJoined
import GoSem.ClaimMapViews
import Derived.JoinedTies
import Derived.KernelRfl
namespace Go.Proofs.Ybulkcqiq
/- THE CELL 'sum', in the pinned program and in every row, IS THE sha256 OF THE DUMP (.gsa) THAT YbulkcqiqProg.lean LOADS. Nothing in Lean hashes anything: it is a label: what it is worth is what the hold of that sum in a sandbox is worth. -/
noncomputable def Yba.pinned : Pinned := { name := "ybulkcqiq", sum := "9b0e260707b668da93f48de3cdb62cacaed9c5ea2eb47b5f7cfc271882b0fd17", checked := Yba.checked }
namespace Rows
def none {H : Type} : Left H := { results := [], args := [] }

/-- 'codec.LawS4605AExact': WHATEVER THE INPUT: true; the input reads as it did. -/
def lawS4605AExactSpec : ChangeSpec := { name := "lawS4605AExact", fn := fun _ => fun
  | [d1, d2] => { results := [.lit (.bool true)], args := [d1, d2] }
  | _ => none }
def lawS4605AExactRow : OpenClaim := { program := "ybulkcqiq", sum := "9b0e260707b668da93f48de3cdb62cacaed9c5ea2eb47b5f7cfc271882b0fd17", func := "example.com/cairnkeep/cairnkeep/internal/codec.LawS4605AExact", spec := "lawS4605AExact", apart := false }
def LawS4605AExactSaid : Prop := lawS4605AExactRow.holds Yba.pinned (OpenSpec.ofChange lawS4605AExactSpec)

/-- ITS FALSE NEIGHBOUR: 'it returns false'. Refute it at one input. -/
def lawS4605AExactWrong : ChangeSpec := { name := "lawS4605AExact", fn := fun _ => fun
  | [d1, d2] => { results := [.lit (.bool false)], args := [d1, d2] }
  | _ => none }
def LawS4605AExactWrongFalsely : Prop := lawS4605AExactRow.holds Yba.pinned (OpenSpec.ofChange lawS4605AExactWrong)

/-- 'codec.LawS4605ARoundTrip': WHATEVER THE INPUT: true; the input reads as it did. -/
def lawS4605ARoundTripSpec : ChangeSpec := { name := "lawS4605ARoundTrip", fn := fun _ => fun
  | [d1, d2] => { results := [.lit (.bool true)], args := [d1, d2] }
  | _ => none }
def lawS4605ARoundTripRow : OpenClaim := { program := "ybulkcqiq", sum := "9b0e260707b668da93f48de3cdb62cacaed9c5ea2eb47b5f7cfc271882b0fd17", func := "example.com/cairnkeep/cairnkeep/internal/codec.LawS4605ARoundTrip", spec := "lawS4605ARoundTrip", apart := false }
def LawS4605ARoundTripSaid : Prop := lawS4605ARoundTripRow.holds Yba.pinned (OpenSpec.ofChange lawS4605ARoundTripSpec)

/-- ITS FALSE NEIGHBOUR: 'it returns false'. Refute it at one input. -/
def lawS4605ARoundTripWrong : ChangeSpec := { name := "lawS4605ARoundTrip", fn := fun _ => fun
  | [d1, d2] => { results := [.lit (.bool false)], args := [d1, d2] }
  | _ => none }
def LawS4605ARoundTripWrongFalsely : Prop := lawS4605ARoundTripRow.holds Yba.pinned (OpenSpec.ofChange lawS4605ARoundTripWrong)

end Rows
end Go.Proofs.Ybulkcqiq

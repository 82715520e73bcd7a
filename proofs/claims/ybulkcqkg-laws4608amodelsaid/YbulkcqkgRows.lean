/-
  No cell of these rows narrows 'for every input' (looked for: loops, veiled, ifaces, maps, wideKeys, modest, calm, conditions, laid).
  DERIVED. THE GIVEN ROWS OF THIS SEAT. 1 by the template 'for every input the law returns true; each argument reads behind the call as it read before'; 0 by the template 'total and deterministic' (their statements: YbulkcqkgTotals.lean).
  GIVEN WITH THE SEED: the statements are not yours to turn. If you find one false, say at which input.
  Laid BY PROGRAM, IN A SANDBOX (cutbox-rows.mjs): the forced cells as the released guide's own fill.sh prints them over the translation f78a88281f2117f3… (all of the seat's roots in one cut). By AI agents, Wed Nov 11 2026. No macro, syntax, notation, axiom, sorry.
-/
import Derived.Test.YbulkcqkgChecked
import GoSem.Claim
import GoSem.ClaimJoined
import GoSem.ClaimMapViews
import Derived.JoinedTies
import Derived.KernelRfl
namespace Go.Proofs.Ybulkcqkg
/- THE CELL 'sum', in the pinned program and in every row, IS THE sha256 OF THE DUMP (.gsa) THAT YbulkcqkgProg.lean LOADS. Nothing in Lean hashes anything: it is a label: what it is worth is what the hold of that sum in a sandbox is worth. -/
noncomputable def Yba.pinned : Pinned := { name := "ybulkcqkg", sum := "f78a88281f2117f39ca073120b8ca6743043f30e50af8ae4ef12d7ff449a2bc1", checked := Yba.checked }
namespace Rows
def none {H : Type} : Left H := { results := [], args := [] }

/-- 'ledger.LawS4608AModel': WHATEVER THE INPUT: true; the input reads as it did. -/
def lawS4608AModelSpec : ChangeSpec := { name := "lawS4608AModel", fn := fun _ => fun
  | [d1, d2] => { results := [.lit (.bool true)], args := [d1, d2] }
  | _ => none }
def lawS4608AModelRow : OpenClaim := { program := "ybulkcqkg", sum := "f78a88281f2117f39ca073120b8ca6743043f30e50af8ae4ef12d7ff449a2bc1", func := "example.com/tideover/tideover/ledger.LawS4608AModel", spec := "lawS4608AModel", apart := false }
def LawS4608AModelSaid : Prop := lawS4608AModelRow.holds Yba.pinned (OpenSpec.ofChange lawS4608AModelSpec)

/-- ITS FALSE NEIGHBOUR: 'it returns false'. Refute it at one input. -/
def lawS4608AModelWrong : ChangeSpec := { name := "lawS4608AModel", fn := fun _ => fun
  | [d1, d2] => { results := [.lit (.bool false)], args := [d1, d2] }
  | _ => none }
def LawS4608AModelWrongFalsely : Prop := lawS4608AModelRow.holds Yba.pinned (OpenSpec.ofChange lawS4608AModelWrong)

end Rows
end Go.Proofs.Ybulkcqkg

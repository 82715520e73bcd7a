/-
  NARROWER THAN 'FOR EVERY INPUT', by the rows' own cells (each row's printed sentence says how): LawS4608BDispatch: ifaces, laid.
  DERIVED. THE GIVEN ROWS OF THIS SEAT. 1 by the template 'for every input the law returns true; each argument reads behind the call as it read before'; 0 by the template 'total and deterministic' (their statements: YbulkcqkgFmtTotals.lean).
  GIVEN WITH THE SEED: the statements are not yours to turn. If you find one false, say at which input.
  Laid BY PROGRAM, IN A SANDBOX (cutbox-rows.mjs): the forced cells as the released guide's own fill.sh prints them over the translation 1ce269b64e96803d… (all of the seat's roots in one cut). By AI agents, Wed Nov 11 2026. No macro, syntax, notation, axiom, sorry.
-/
import Derived.Test.YbulkcqkgFmtChecked
import GoSem.Claim
import GoSem.ClaimJoined
import GoSem.ClaimMapViews
import Derived.JoinedTies
import Derived.KernelRfl
namespace Go.Proofs.YbulkcqkgFmt
/- THE CELL 'sum', in the pinned program and in every row, IS THE sha256 OF THE DUMP (.gsa) THAT YbulkcqkgFmtProg.lean LOADS. Nothing in Lean hashes anything: it is a label: what it is worth is what the hold of that sum in a sandbox is worth. -/
noncomputable def Ybaf.pinned : Pinned := { name := "ybulkcqkgfmt", sum := "1ce269b64e96803d11bbab4704d391bae9d1b2ac76ec250b8f2249c44b167860", checked := Ybaf.checked }
namespace Rows
def none {H : Type} : Left H := { results := [], args := [] }

/- WHAT THE LISTED PACKAGE-LEVEL VARIABLES READ AS WHEN THE CALL BEGINS. Each datum BY PROGRAM (the guide's laid-datum.mjs) off the statement by which the dump's own 'gosem.cut.vars' lays the variable. In a bare row this is a premise. The card (YbulkcqkgFmtCards.lean) ties it to the program's text. -/
def laid_example_com_tideover_tideover_records_ErrNotUTF8 {H : Type} : DataW H := .iface "*errors.errorString" (.ptr (.agg [.lit (.string [110, 111, 116, 32, 85, 84, 70, 45, 56, 32, 116, 101, 120, 116])]))

/-- 'records.LawS4608BDispatch': WHATEVER THE INPUT: true; the input reads as it did. -/
def lawS4608BDispatchSpec : ChangeSpec := { name := "lawS4608BDispatch", vars := ["example.com/tideover/tideover/records.ErrNotUTF8"], fn := fun _ => fun
  | [d1, d2, d3, d4, d5, d6, d7, d8, g1] => { results := [.lit (.bool true)], args := [d1, d2, d3, d4, d5, d6, d7, d8], vars := [g1] }
  | _ => none }
def lawS4608BDispatchRow : OpenClaim := { program := "ybulkcqkgfmt", sum := "1ce269b64e96803d11bbab4704d391bae9d1b2ac76ec250b8f2249c44b167860", func := "example.com/tideover/tideover/records.LawS4608BDispatch", spec := "lawS4608BDispatch", stops := ["fmt.errorf"], inPlace := ["fmt.errorf", "internal/reflectlite.TypeOf"], unfollowed := true, recurses := true, named := ["example.com/tideover/tideover/records.ErrNotUTF8"], ifaces := true, apart := false, laid := [("example.com/tideover/tideover/records.ErrNotUTF8", laid_example_com_tideover_tideover_records_ErrNotUTF8)] }
/-- NO THEOREM (fmt's text is open here; it may be false): for the released tool's asking of the row's closed facts alone. THE STATEMENT IS 'LawS4608BDispatchToldSaid' (YbulkcqkgFmtCards.lean). -/
def LawS4608BDispatchFormAsk : Prop := lawS4608BDispatchRow.holds Ybaf.pinned (OpenSpec.ofChange lawS4608BDispatchSpec)

/-- ITS FALSE NEIGHBOUR: 'it returns false'. Refute it at one input. -/
def lawS4608BDispatchWrong : ChangeSpec := { name := "lawS4608BDispatch", vars := ["example.com/tideover/tideover/records.ErrNotUTF8"], fn := fun _ => fun
  | [d1, d2, d3, d4, d5, d6, d7, d8, g1] => { results := [.lit (.bool false)], args := [d1, d2, d3, d4, d5, d6, d7, d8], vars := [g1] }
  | _ => none }
def LawS4608BDispatchWrongFormAsk : Prop := lawS4608BDispatchRow.holds Ybaf.pinned (OpenSpec.ofChange lawS4608BDispatchWrong)

end Rows
end Go.Proofs.YbulkcqkgFmt

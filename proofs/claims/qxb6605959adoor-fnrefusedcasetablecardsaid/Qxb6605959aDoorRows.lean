/-
  NARROWER THAN 'FOR EVERY INPUT', by the rows' own cells (each row's printed sentence says how): FnRefusedCaseTable: laid.
  DERIVED. THE GIVEN ROWS OF THIS SEAT. 1 by the template 'for every input the law returns true; each argument reads behind the call as it read before'; 0 by the template 'total and deterministic' (their statements: Qxb6605959aDoorTotals.lean).
  GIVEN WITH THE SEED: the statements are not yours to turn. If you find one false, say at which input.
  Laid BY PROGRAM, IN A SANDBOX (cutbox-rows.mjs): the forced cells as the released guide's own fill.sh prints them over the translation 65246cb264d84cc0… (all of the seat's roots in one cut). By AI agents, Wed Nov 11 2026. No macro, syntax, notation, axiom, sorry.
-/
import Derived.Test.Qxb6605959aDoorChecked
import GoSem.Claim
import GoSem.ClaimJoined
import GoSem.ClaimMapViews
import Derived.JoinedTies
import Derived.KernelRfl
namespace Go.Proofs.Qxb6605959aDoor
/- THE CELL 'sum', in the pinned program and in every row, IS THE sha256 OF THE DUMP (.gsa) THAT Qxb6605959aDoorProg.lean LOADS. Nothing in Lean hashes anything: it is a label: what it is worth is what the hold of that sum in a sandbox is worth. -/
noncomputable def Tryd.pinned : Pinned := { name := "qxb6605959adoor", sum := "65246cb264d84cc02a9fc12aa19d6ed73a18fe93affedadda64857e2516aded8", checked := Tryd.checked }
namespace Rows
def none {H : Type} : Left H := { results := [], args := [] }

/- WHAT THE LISTED PACKAGE-LEVEL VARIABLES READ AS WHEN THE CALL BEGINS. Each datum BY PROGRAM (the guide's laid-datum.mjs) off the statement by which the dump's own 'gosem.cut.vars' lays the variable. In a bare row this is a premise. The card (Qxb6605959aDoorCards.lean) ties it to the program's text. -/
def laid_errors_errorType {H : Type} : DataW H := .iface "internal/reflectlite.rtype" (.agg [.ptr (.lit (.string [101, 114, 114, 111, 114]))])

/-- 'zzlaws_root_b1.FnRefusedCaseTable': WHATEVER THE INPUT: true; the input reads as it did. -/
def fnRefusedCaseTableSpec : ChangeSpec := { name := "fnRefusedCaseTable", fn := fun _ => fun
  | [d1, d2, d3, d4, d5] => { results := [.lit (.bool true)], args := [d1, d2, d3, d4, d5] }
  | _ => none }
def fnRefusedCaseTableRow : OpenClaim := { program := "qxb6605959adoor", sum := "65246cb264d84cc02a9fc12aa19d6ed73a18fe93affedadda64857e2516aded8", func := "example.com/parley/parley/zzlaws_root_b1.FnRefusedCaseTable", spec := "fnRefusedCaseTable", inPlace := ["internal/reflectlite.ValueOf", "(internal/reflectlite.Value).Type", "(internal/reflectlite.Value).IsNil", "internal/reflectlite.TypeOf", "(internal/reflectlite.Value).Elem", "(internal/reflectlite.Value).Set"], unfollowed := true, recurses := true, named := ["errors.errorType"], apart := false, laid := [("errors.errorType", laid_errors_errorType)] }
def FnRefusedCaseTableSaid : Prop := fnRefusedCaseTableRow.holds Tryd.pinned (OpenSpec.ofChange fnRefusedCaseTableSpec)

/-- ITS FALSE NEIGHBOUR: 'it returns false'. Refute it at one input. -/
def fnRefusedCaseTableWrong : ChangeSpec := { name := "fnRefusedCaseTable", fn := fun _ => fun
  | [d1, d2, d3, d4, d5] => { results := [.lit (.bool false)], args := [d1, d2, d3, d4, d5] }
  | _ => none }
def FnRefusedCaseTableWrongFalsely : Prop := fnRefusedCaseTableRow.holds Tryd.pinned (OpenSpec.ofChange fnRefusedCaseTableWrong)

end Rows
end Go.Proofs.Qxb6605959aDoor

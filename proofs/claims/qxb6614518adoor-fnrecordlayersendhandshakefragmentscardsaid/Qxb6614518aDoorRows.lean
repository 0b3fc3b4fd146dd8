/-
  NARROWER THAN 'FOR EVERY INPUT', by the rows' own cells (each row's printed sentence says how): FnRecordLayerSendHandshakeFragments: ifaces, laid · FnRecordLayerSendHandshakeFreshAndFull: ifaces, laid.
  DERIVED. THE GIVEN ROWS OF THIS SEAT. 2 by the template 'for every input the law returns true; each argument reads behind the call as it read before'; 0 by the template 'total and deterministic' (their statements: Qxb6614518aDoorTotals.lean).
  GIVEN WITH THE SEED: the statements are not yours to turn. If you find one false, say at which input.
  Laid BY PROGRAM, IN A SANDBOX (cutbox-rows.mjs): the forced cells as the released guide's own fill.sh prints them over the translation e7816ecbf7d9579b… (all of the seat's roots in one cut). By AI agents, Wed Nov 11 2026. No macro, syntax, notation, axiom, sorry.
-/
import Derived.Test.Qxb6614518aDoorChecked
import GoSem.Claim
import GoSem.ClaimJoined
import GoSem.ClaimMapViews
import Derived.JoinedTies
import Derived.KernelRfl
namespace Go.Proofs.Qxb6614518aDoor
/- THE CELL 'sum', in the pinned program and in every row, IS THE sha256 OF THE DUMP (.gsa) THAT Qxb6614518aDoorProg.lean LOADS. Nothing in Lean hashes anything: it is a label: what it is worth is what the hold of that sum in a sandbox is worth. -/
noncomputable def Tryd.pinned : Pinned := { name := "qxb6614518adoor", sum := "e7816ecbf7d9579be2e163fb817f4ceff1b561ebb0f1c44d91f9859653b93588", checked := Tryd.checked }
namespace Rows
def none {H : Type} : Left H := { results := [], args := [] }

/- WHAT THE LISTED PACKAGE-LEVEL VARIABLES READ AS WHEN THE CALL BEGINS. Each datum BY PROGRAM (the guide's laid-datum.mjs) off the statement by which the dump's own 'gosem.cut.vars' lays the variable. In a bare row this is a premise. The card (Qxb6614518aDoorCards.lean) ties it to the program's text. -/
def laid_example_com_flightpath_flightpath_errSeqExhausted {H : Type} : DataW H := .iface "*errors.errorString" (.ptr (.agg [.lit (.string [116, 104, 101, 32, 114, 101, 99, 111, 114, 100, 32, 115, 101, 113, 117, 101, 110, 99, 101, 32, 110, 117, 109, 98, 101, 114, 115, 32, 111, 102, 32, 116, 104, 101, 32, 101, 112, 111, 99, 104, 32, 97, 114, 101, 32, 117, 115, 101, 100, 32, 117, 112])]))

/-- 'zzlaws_root_b1.FnRecordLayerSendHandshakeFragments': WHATEVER THE INPUT: true; the input reads as it did. -/
def fnRecordLayerSendHandshakeFragmentsSpec : ChangeSpec := { name := "fnRecordLayerSendHandshakeFragments", vars := ["example.com/flightpath/flightpath.errSeqExhausted"], fn := fun _ => fun
  | [d1, d2, d3, d4, d5, d6, d7, d8, g1] => { results := [.lit (.bool true)], args := [d1, d2, d3, d4, d5, d6, d7, d8], vars := [g1] }
  | _ => none }
def fnRecordLayerSendHandshakeFragmentsRow : OpenClaim := { program := "qxb6614518adoor", sum := "e7816ecbf7d9579be2e163fb817f4ceff1b561ebb0f1c44d91f9859653b93588", func := "example.com/flightpath/flightpath/zzlaws_root_b1.FnRecordLayerSendHandshakeFragments", spec := "fnRecordLayerSendHandshakeFragments", unfollowed := true, recurses := true, named := ["encoding/binary.BigEndian", "example.com/flightpath/flightpath.errSeqExhausted"], ifaces := true, apart := false, laid := [("example.com/flightpath/flightpath.errSeqExhausted", laid_example_com_flightpath_flightpath_errSeqExhausted)] }
def FnRecordLayerSendHandshakeFragmentsSaid : Prop := fnRecordLayerSendHandshakeFragmentsRow.holds Tryd.pinned (OpenSpec.ofChange fnRecordLayerSendHandshakeFragmentsSpec)

/-- ITS FALSE NEIGHBOUR: 'it returns false'. Refute it at one input. -/
def fnRecordLayerSendHandshakeFragmentsWrong : ChangeSpec := { name := "fnRecordLayerSendHandshakeFragments", vars := ["example.com/flightpath/flightpath.errSeqExhausted"], fn := fun _ => fun
  | [d1, d2, d3, d4, d5, d6, d7, d8, g1] => { results := [.lit (.bool false)], args := [d1, d2, d3, d4, d5, d6, d7, d8], vars := [g1] }
  | _ => none }
def FnRecordLayerSendHandshakeFragmentsWrongFalsely : Prop := fnRecordLayerSendHandshakeFragmentsRow.holds Tryd.pinned (OpenSpec.ofChange fnRecordLayerSendHandshakeFragmentsWrong)

/-- 'zzlaws_root_b1.FnRecordLayerSendHandshakeFreshAndFull': WHATEVER THE INPUT: true; the input reads as it did. -/
def fnRecordLayerSendHandshakeFreshAndFullSpec : ChangeSpec := { name := "fnRecordLayerSendHandshakeFreshAndFull", vars := ["example.com/flightpath/flightpath.errSeqExhausted"], fn := fun _ => fun
  | [d1, d2, d3, d4, d5, d6, d7, d8, g1] => { results := [.lit (.bool true)], args := [d1, d2, d3, d4, d5, d6, d7, d8], vars := [g1] }
  | _ => none }
def fnRecordLayerSendHandshakeFreshAndFullRow : OpenClaim := { program := "qxb6614518adoor", sum := "e7816ecbf7d9579be2e163fb817f4ceff1b561ebb0f1c44d91f9859653b93588", func := "example.com/flightpath/flightpath/zzlaws_root_b1.FnRecordLayerSendHandshakeFreshAndFull", spec := "fnRecordLayerSendHandshakeFreshAndFull", unfollowed := true, recurses := true, named := ["encoding/binary.BigEndian", "example.com/flightpath/flightpath.errSeqExhausted"], ifaces := true, apart := false, laid := [("example.com/flightpath/flightpath.errSeqExhausted", laid_example_com_flightpath_flightpath_errSeqExhausted)] }
def FnRecordLayerSendHandshakeFreshAndFullSaid : Prop := fnRecordLayerSendHandshakeFreshAndFullRow.holds Tryd.pinned (OpenSpec.ofChange fnRecordLayerSendHandshakeFreshAndFullSpec)

/-- ITS FALSE NEIGHBOUR: 'it returns false'. Refute it at one input. -/
def fnRecordLayerSendHandshakeFreshAndFullWrong : ChangeSpec := { name := "fnRecordLayerSendHandshakeFreshAndFull", vars := ["example.com/flightpath/flightpath.errSeqExhausted"], fn := fun _ => fun
  | [d1, d2, d3, d4, d5, d6, d7, d8, g1] => { results := [.lit (.bool false)], args := [d1, d2, d3, d4, d5, d6, d7, d8], vars := [g1] }
  | _ => none }
def FnRecordLayerSendHandshakeFreshAndFullWrongFalsely : Prop := fnRecordLayerSendHandshakeFreshAndFullRow.holds Tryd.pinned (OpenSpec.ofChange fnRecordLayerSendHandshakeFreshAndFullWrong)

end Rows
end Go.Proofs.Qxb6614518aDoor

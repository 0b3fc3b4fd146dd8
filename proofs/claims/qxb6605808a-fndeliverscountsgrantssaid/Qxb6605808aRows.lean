/-
  No cell of these rows narrows 'for every input' (looked for: loops, veiled, ifaces, maps, wideKeys, modest, calm, conditions, laid).
  DERIVED. THE GIVEN ROWS OF THIS SEAT. 2 by the template 'for every input the law returns true; each argument reads behind the call as it read before'; 0 by the template 'total and deterministic' (their statements: Qxb6605808aTotals.lean).
  GIVEN WITH THE SEED: the statements are not yours to turn. If you find one false, say at which input.
  Laid BY PROGRAM, IN A SANDBOX (cutbox-rows.mjs): the forced cells as the released guide's own fill.sh prints them over the translation 2c3b2856427dc457… (all of the seat's roots in one cut). By AI agents, Wed Nov 11 2026. No macro, syntax, notation, axiom, sorry.
-/
import Derived.Test.Qxb6605808aChecked
import GoSem.Claim
import GoSem.ClaimJoined
import GoSem.ClaimMapViews
import Derived.JoinedTies
import Derived.KernelRfl
namespace Go.Proofs.Qxb6605808a
/- THE CELL 'sum', in the pinned program and in every row, IS THE sha256 OF THE DUMP (.gsa) THAT Qxb6605808aProg.lean LOADS. Nothing in Lean hashes anything: it is a label: what it is worth is what the hold of that sum in a sandbox is worth. -/
noncomputable def Try.pinned : Pinned := { name := "qxb6605808a", sum := "2c3b2856427dc4573921379792c1476b5c5deaf8611b7331f773ba2100cbaa39", checked := Try.checked }
namespace Rows
def none {H : Type} : Left H := { results := [], args := [] }

/-- 'zzlaws_router_b1.FnDeliversCountsGrants': WHATEVER THE INPUT: true; the input reads as it did. -/
def fnDeliversCountsGrantsSpec : ChangeSpec := { name := "fnDeliversCountsGrants", fn := fun _ => fun
  | [d1, d2, d3, d4] => { results := [.lit (.bool true)], args := [d1, d2, d3, d4] }
  | _ => none }
def fnDeliversCountsGrantsRow : OpenClaim := { program := "qxb6605808a", sum := "2c3b2856427dc4573921379792c1476b5c5deaf8611b7331f773ba2100cbaa39", func := "example.com/fenmail/fenmail/zzlaws_router_b1.FnDeliversCountsGrants", spec := "fnDeliversCountsGrants", apart := false }
def FnDeliversCountsGrantsSaid : Prop := fnDeliversCountsGrantsRow.holds Try.pinned (OpenSpec.ofChange fnDeliversCountsGrantsSpec)

/-- ITS FALSE NEIGHBOUR: 'it returns false'. Refute it at one input. -/
def fnDeliversCountsGrantsWrong : ChangeSpec := { name := "fnDeliversCountsGrants", fn := fun _ => fun
  | [d1, d2, d3, d4] => { results := [.lit (.bool false)], args := [d1, d2, d3, d4] }
  | _ => none }
def FnDeliversCountsGrantsWrongFalsely : Prop := fnDeliversCountsGrantsRow.holds Try.pinned (OpenSpec.ofChange fnDeliversCountsGrantsWrong)

/-- 'zzlaws_router_b1.FnDeliversGrantsAreMonotone': WHATEVER THE INPUT: true; the input reads as it did. -/
def fnDeliversGrantsAreMonotoneSpec : ChangeSpec := { name := "fnDeliversGrantsAreMonotone", fn := fun _ => fun
  | [d1, d2, d3, d4] => { results := [.lit (.bool true)], args := [d1, d2, d3, d4] }
  | _ => none }
def fnDeliversGrantsAreMonotoneRow : OpenClaim := { program := "qxb6605808a", sum := "2c3b2856427dc4573921379792c1476b5c5deaf8611b7331f773ba2100cbaa39", func := "example.com/fenmail/fenmail/zzlaws_router_b1.FnDeliversGrantsAreMonotone", spec := "fnDeliversGrantsAreMonotone", apart := false }
def FnDeliversGrantsAreMonotoneSaid : Prop := fnDeliversGrantsAreMonotoneRow.holds Try.pinned (OpenSpec.ofChange fnDeliversGrantsAreMonotoneSpec)

/-- ITS FALSE NEIGHBOUR: 'it returns false'. Refute it at one input. -/
def fnDeliversGrantsAreMonotoneWrong : ChangeSpec := { name := "fnDeliversGrantsAreMonotone", fn := fun _ => fun
  | [d1, d2, d3, d4] => { results := [.lit (.bool false)], args := [d1, d2, d3, d4] }
  | _ => none }
def FnDeliversGrantsAreMonotoneWrongFalsely : Prop := fnDeliversGrantsAreMonotoneRow.holds Try.pinned (OpenSpec.ofChange fnDeliversGrantsAreMonotoneWrong)

end Rows
end Go.Proofs.Qxb6605808a

/-
  No cell of these rows narrows 'for every input' (looked for: loops, veiled, ifaces, maps, wideKeys, modest, calm, conditions, laid).
  DERIVED. THE GIVEN ROWS OF THIS SEAT. 2 by the template 'for every input the law returns true; each argument reads behind the call as it read before'; 0 by the template 'total and deterministic' (their statements: Qxb6605889aTotals.lean).
  GIVEN WITH THE SEED: the statements are not yours to turn. If you find one false, say at which input.
  Laid BY PROGRAM, IN A SANDBOX (cutbox-rows.mjs): the forced cells as the released guide's own fill.sh prints them over the translation 8c049995cf7d636d… (all of the seat's roots in one cut). By AI agents, Wed Nov 11 2026. No macro, syntax, notation, axiom, sorry.
-/
import Derived.Test.Qxb6605889aChecked
import GoSem.Claim
import GoSem.ClaimJoined
import GoSem.ClaimMapViews
import Derived.JoinedTies
import Derived.KernelRfl
namespace Go.Proofs.Qxb6605889a
/- THE CELL 'sum', in the pinned program and in every row, IS THE sha256 OF THE DUMP (.gsa) THAT Qxb6605889aProg.lean LOADS. Nothing in Lean hashes anything: it is a label: what it is worth is what the hold of that sum in a sandbox is worth. -/
noncomputable def Try.pinned : Pinned := { name := "qxb6605889a", sum := "8c049995cf7d636d98cea7b6a444794a45fcee7f204a4404d297bf9c75444a3c", checked := Try.checked }
namespace Rows
def none {H : Type} : Left H := { results := [], args := [] }

/-- 'zzlaws_pkg_vestline_b1.FnOpenDayAfterIsNthOpenDay': WHATEVER THE INPUT: true; the input reads as it did. -/
def fnOpenDayAfterIsNthOpenDaySpec : ChangeSpec := { name := "fnOpenDayAfterIsNthOpenDay", fn := fun _ => fun
  | [d1, d2, d3] => { results := [.lit (.bool true)], args := [d1, d2, d3] }
  | _ => none }
def fnOpenDayAfterIsNthOpenDayRow : OpenClaim := { program := "qxb6605889a", sum := "8c049995cf7d636d98cea7b6a444794a45fcee7f204a4404d297bf9c75444a3c", func := "example.com/vestline/vestline/zzlaws_pkg_vestline_b1.FnOpenDayAfterIsNthOpenDay", spec := "fnOpenDayAfterIsNthOpenDay", apart := false }
def FnOpenDayAfterIsNthOpenDaySaid : Prop := fnOpenDayAfterIsNthOpenDayRow.holds Try.pinned (OpenSpec.ofChange fnOpenDayAfterIsNthOpenDaySpec)

/-- ITS FALSE NEIGHBOUR: 'it returns false'. Refute it at one input. -/
def fnOpenDayAfterIsNthOpenDayWrong : ChangeSpec := { name := "fnOpenDayAfterIsNthOpenDay", fn := fun _ => fun
  | [d1, d2, d3] => { results := [.lit (.bool false)], args := [d1, d2, d3] }
  | _ => none }
def FnOpenDayAfterIsNthOpenDayWrongFalsely : Prop := fnOpenDayAfterIsNthOpenDayRow.holds Try.pinned (OpenSpec.ofChange fnOpenDayAfterIsNthOpenDayWrong)

/-- 'zzlaws_pkg_vestline_b1.FnOpenDayAfterComposes': WHATEVER THE INPUT: true; the input reads as it did. -/
def fnOpenDayAfterComposesSpec : ChangeSpec := { name := "fnOpenDayAfterComposes", fn := fun _ => fun
  | [d1, d2, d3, d4] => { results := [.lit (.bool true)], args := [d1, d2, d3, d4] }
  | _ => none }
def fnOpenDayAfterComposesRow : OpenClaim := { program := "qxb6605889a", sum := "8c049995cf7d636d98cea7b6a444794a45fcee7f204a4404d297bf9c75444a3c", func := "example.com/vestline/vestline/zzlaws_pkg_vestline_b1.FnOpenDayAfterComposes", spec := "fnOpenDayAfterComposes", apart := false }
def FnOpenDayAfterComposesSaid : Prop := fnOpenDayAfterComposesRow.holds Try.pinned (OpenSpec.ofChange fnOpenDayAfterComposesSpec)

/-- ITS FALSE NEIGHBOUR: 'it returns false'. Refute it at one input. -/
def fnOpenDayAfterComposesWrong : ChangeSpec := { name := "fnOpenDayAfterComposes", fn := fun _ => fun
  | [d1, d2, d3, d4] => { results := [.lit (.bool false)], args := [d1, d2, d3, d4] }
  | _ => none }
def FnOpenDayAfterComposesWrongFalsely : Prop := fnOpenDayAfterComposesRow.holds Try.pinned (OpenSpec.ofChange fnOpenDayAfterComposesWrong)

end Rows
end Go.Proofs.Qxb6605889a

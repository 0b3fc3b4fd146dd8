/-
  DERIVED. GIVEN WITH THE SEED: THE CARDS: each row of Qxb6605959aDoorRows.lean that lists a variable, with what it lists TIED to the program's text (the seventh form; the later family's looks); each row that meets fmt, with fmt's text TOLD by the authors' own Lean function (tested against real Go, not proved from fmt's source: count such statements apart). THE CARD IS WHAT COUNTS. Prove the row's statement (the work); the ties are given (Qxb6605959aDoorTie.lean); close each card by the builder's one call (the guide's Derived/Test/ToyasCard.lean, 'card_holds'). Laid BY PROGRAM, IN A SANDBOX (cutbox-door.mjs). By AI agents, Wed Nov 11 2026. No macro, syntax, notation, axiom, sorry.
-/
import Derived.Test.Qxb6605959aDoorRows
import GoSem.ClaimSeven
namespace Go.Proofs.Qxb6605959aDoor
namespace Rows

/-- THE TIED CARD OF 'zzlaws_root_b1.FnRefusedCaseTable'. -/
def fnRefusedCaseTableCard : Claim7 := { stood := { row := fnRefusedCaseTableRow, standIns := [], harness := (true, "97176b2831b065495a7f1d7e73b60c76776585abe12b294254ac8e8a0650c125"), looks := true }, kinds := [], alts := [], laidByText := true, laidKinds := [.handle], laidTests := true, laidLooks := .later }
def FnRefusedCaseTableCardSaid : Prop := Claim7.holds Tryd.pinned (.plain (OpenSpec.ofChange fnRefusedCaseTableSpec)) fnRefusedCaseTableCard
end Rows
end Go.Proofs.Qxb6605959aDoor

/-
  DERIVED. GIVEN WITH THE SEED: THE CARDS: each row of Qxb6614518aDoorRows.lean that lists a variable, with what it lists TIED to the program's text (the seventh form; the later family's looks); each row that meets fmt, with fmt's text TOLD by the authors' own Lean function (tested against real Go, not proved from fmt's source: count such statements apart). THE CARD IS WHAT COUNTS. Prove the row's statement (the work); the ties are given (Qxb6614518aDoorTie.lean); close each card by the builder's one call (the guide's Derived/Test/ToyasCard.lean, 'card_holds'). Laid BY PROGRAM, IN A SANDBOX (cutbox-door.mjs). By AI agents, Wed Nov 11 2026. No macro, syntax, notation, axiom, sorry.
-/
import Derived.Test.Qxb6614518aDoorRows
import GoSem.ClaimSeven
namespace Go.Proofs.Qxb6614518aDoor
namespace Rows

/-- THE TIED CARD OF 'zzlaws_root_b1.FnRecordLayerSendHandshakeFragments'. -/
def fnRecordLayerSendHandshakeFragmentsCard : Claim7 := { stood := { row := fnRecordLayerSendHandshakeFragmentsRow, standIns := [], harness := (true, "ef8a32a47bcb1a47fd825e1ede0823f933dbdc46ac2c009fbde4d81c85c6eb36"), looks := false }, kinds := [], alts := [], laidByText := true, laidKinds := [.sentinel], laidTests := true, laidLooks := .later }
def FnRecordLayerSendHandshakeFragmentsCardSaid : Prop := Claim7.holds Tryd.pinned (.plain (OpenSpec.ofChange fnRecordLayerSendHandshakeFragmentsSpec)) fnRecordLayerSendHandshakeFragmentsCard

/-- THE TIED CARD OF 'zzlaws_root_b1.FnRecordLayerSendHandshakeFreshAndFull'. -/
def fnRecordLayerSendHandshakeFreshAndFullCard : Claim7 := { stood := { row := fnRecordLayerSendHandshakeFreshAndFullRow, standIns := [], harness := (true, "ef8a32a47bcb1a47fd825e1ede0823f933dbdc46ac2c009fbde4d81c85c6eb36"), looks := false }, kinds := [], alts := [], laidByText := true, laidKinds := [.sentinel], laidTests := true, laidLooks := .later }
def FnRecordLayerSendHandshakeFreshAndFullCardSaid : Prop := Claim7.holds Tryd.pinned (.plain (OpenSpec.ofChange fnRecordLayerSendHandshakeFreshAndFullSpec)) fnRecordLayerSendHandshakeFreshAndFullCard
end Rows
end Go.Proofs.Qxb6614518aDoor

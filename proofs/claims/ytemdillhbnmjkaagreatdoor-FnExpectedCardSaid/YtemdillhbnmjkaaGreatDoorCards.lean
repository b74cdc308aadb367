/-
  DERIVED. GIVEN WITH THE SEED: THE CARDS: each row of YtemdillhbnmjkaaGreatDoorRows.lean that lists a variable, with what it lists TIED to the program's text (the seventh form; the later family's looks); each row that meets fmt, with fmt's text TOLD by the authors' own Lean function (tested against real Go, not proved from fmt's source: count such statements apart). THE CARD IS WHAT COUNTS. Prove the row's statement (the work); the ties are given (YtemdillhbnmjkaaGreatDoorTie.lean); close each card by the builder's one call (the guide's Derived/Test/ToyasCard.lean, 'card_holds'). Laid BY PROGRAM, IN A SANDBOX (cutbox-door.mjs). By AI agents, Wed Nov 11 2026. No macro, syntax, notation, axiom, sorry.
-/
import Derived.Test.YtemdillhbnmjkaaGreatDoorRows
import GoSem.ClaimSeven
namespace Go.Proofs.YtemdillhbnmjkaaGreatDoor
namespace Rows

/-- THE TIED CARD OF 'laws.FnLook'. -/
def fnLookCard : Claim7 := { stood := { row := fnLookRow, standIns := [], harness := (true, "254168e948f71bdb99aab8c8aeb91b1c3d42739e97c4c93367bd233db88e763b"), looks := true }, kinds := [], alts := [], laidByText := true, laidKinds := [.data, .data, .data], laidTests := true, laidLooks := .later }
def FnLookCardSaid : Prop := Claim7.holds Tryz.pinned (.plain (OpenSpec.ofChange fnLookSpec)) fnLookCard

/-- THE TIED CARD OF 'laws.FnDecisionLook'. -/
def fnDecisionLookCard : Claim7 := { stood := { row := fnDecisionLookRow, standIns := [], harness := (true, "254168e948f71bdb99aab8c8aeb91b1c3d42739e97c4c93367bd233db88e763b"), looks := true }, kinds := [], alts := [], laidByText := true, laidKinds := [.data, .data, .data], laidTests := true, laidLooks := .later }
def FnDecisionLookCardSaid : Prop := Claim7.holds Tryz.pinned (.plain (OpenSpec.ofChange fnDecisionLookSpec)) fnDecisionLookCard

/-- THE TIED CARD OF 'laws.FnExpected'. -/
def fnExpectedCard : Claim7 := { stood := { row := fnExpectedRow, standIns := [], harness := (true, "254168e948f71bdb99aab8c8aeb91b1c3d42739e97c4c93367bd233db88e763b"), looks := true }, kinds := [], alts := [], laidByText := true, laidKinds := [.data, .data, .data], laidTests := true, laidLooks := .later }
def FnExpectedCardSaid : Prop := Claim7.holds Tryz.pinned (.plain (OpenSpec.ofChange fnExpectedSpec)) fnExpectedCard

/-- THE SECOND FORM's CARD OF 'laws.FnLook'. -/
def fnLookUptoCard : Claim7 := { stood := { row := fnLookUptoRow, standIns := [], harness := (true, "254168e948f71bdb99aab8c8aeb91b1c3d42739e97c4c93367bd233db88e763b"), looks := true }, kinds := [], alts := [], laidByText := true, laidKinds := [.data, .data, .data], laidTests := true, laidLooks := .later }
def FnLookUptoCardSaid : Prop := Claim7.holds Tryz.pinned (.plain (OpenSpec.upto fnLookSpec)) fnLookUptoCard

/-- THE SECOND FORM's CARD OF 'laws.FnDecisionLook'. -/
def fnDecisionLookUptoCard : Claim7 := { stood := { row := fnDecisionLookUptoRow, standIns := [], harness := (true, "254168e948f71bdb99aab8c8aeb91b1c3d42739e97c4c93367bd233db88e763b"), looks := true }, kinds := [], alts := [], laidByText := true, laidKinds := [.data, .data, .data], laidTests := true, laidLooks := .later }
def FnDecisionLookUptoCardSaid : Prop := Claim7.holds Tryz.pinned (.plain (OpenSpec.upto fnDecisionLookSpec)) fnDecisionLookUptoCard

/-- THE SECOND FORM's CARD OF 'laws.FnExpected'. -/
def fnExpectedUptoCard : Claim7 := { stood := { row := fnExpectedUptoRow, standIns := [], harness := (true, "254168e948f71bdb99aab8c8aeb91b1c3d42739e97c4c93367bd233db88e763b"), looks := true }, kinds := [], alts := [], laidByText := true, laidKinds := [.data, .data, .data], laidTests := true, laidLooks := .later }
def FnExpectedUptoCardSaid : Prop := Claim7.holds Tryz.pinned (.plain (OpenSpec.upto fnExpectedSpec)) fnExpectedUptoCard
end Rows
end Go.Proofs.YtemdillhbnmjkaaGreatDoor

/-
  DERIVED. GIVEN WITH THE SEED: THE CARDS: each row of YtdpebhlkgmopkaaDoorRows.lean that lists a variable, with what it lists TIED to the program's text (the seventh form; the later family's looks); each row that meets fmt, with fmt's text TOLD by the authors' own Lean function (tested against real Go, not proved from fmt's source: count such statements apart). THE CARD IS WHAT COUNTS. Prove the row's statement (the work); the ties are given (YtdpebhlkgmopkaaDoorTie.lean); close each card by the builder's one call (the guide's Derived/Test/ToyasCard.lean, 'card_holds'). Laid BY PROGRAM, IN A SANDBOX (cutbox-door.mjs). By AI agents, Wed Nov 11 2026. No macro, syntax, notation, axiom, sorry.
-/
import Derived.Test.YtdpebhlkgmopkaaDoorRows
import GoSem.ClaimSeven
namespace Go.Proofs.YtdpebhlkgmopkaaDoor
namespace Rows

/-- THE TIED CARD OF 'laws.FnSteps'. -/
def fnStepsCard : Claim7 := { stood := { row := fnStepsRow, standIns := [], harness := (true, "7775be05500c50502aa0c8b2673efacb3cdb5ffaf8c9a3971ea4be89def9454f"), looks := false }, kinds := [], alts := [], laidByText := true, laidKinds := [.sentinel, .sentinel], laidTests := true, laidLooks := .later }
def FnStepsCardSaid : Prop := Claim7.holds Tryd.pinned (.plain (OpenSpec.ofChange fnStepsSpec)) fnStepsCard

/-- THE SECOND FORM's CARD OF 'laws.FnSteps'. -/
def fnStepsUptoCard : Claim7 := { stood := { row := fnStepsUptoRow, standIns := [], harness := (true, "7775be05500c50502aa0c8b2673efacb3cdb5ffaf8c9a3971ea4be89def9454f"), looks := false }, kinds := [], alts := [], laidByText := true, laidKinds := [.sentinel, .sentinel], laidTests := true, laidLooks := .later }
def FnStepsUptoCardSaid : Prop := Claim7.holds Tryd.pinned (.plain (OpenSpec.upto fnStepsSpec)) fnStepsUptoCard
end Rows
end Go.Proofs.YtdpebhlkgmopkaaDoor

/-
  DERIVED. GIVEN WITH THE SEED: THE CARDS: each row of YtlphcidpaidclaaGreatDoorRows.lean that lists a variable, with what it lists TIED to the program's text (the seventh form; the later family's looks); each row that meets fmt, with fmt's text TOLD by the authors' own Lean function (tested against real Go, not proved from fmt's source: count such statements apart). THE CARD IS WHAT COUNTS. Prove the row's statement (the work); the ties are given (YtlphcidpaidclaaGreatDoorTie.lean); close each card by the builder's one call (the guide's Derived/Test/ToyasCard.lean, 'card_holds'). Laid BY PROGRAM, IN A SANDBOX (cutbox-door.mjs). By AI agents, Wed Nov 11 2026. No macro, syntax, notation, axiom, sorry.
-/
import Derived.Test.YtlphcidpaidclaaGreatDoorRows
import GoSem.ClaimSeven
namespace Go.Proofs.YtlphcidpaidclaaGreatDoor
namespace Rows

/-- THE TIED CARD OF 'laws.FnWhole'. -/
def fnWholeCard : Claim7 := { stood := { row := fnWholeRow, standIns := [], harness := (true, "48c1acf00456f55cf0bfb8d841c687a37e944a29a4cf40a12425540d5c122e10"), looks := false }, kinds := [], alts := [], laidByText := true, laidKinds := [.data, .data, .data, .data, .sentinel, .sentinel, .pinned, .pinned], laidTests := true, laidLooks := .later }
def FnWholeCardSaid : Prop := Claim7.holds Tryz.pinned (.plain (OpenSpec.ofChange fnWholeSpec)) fnWholeCard

/-- THE TIED CARD OF 'laws.FnWindow'. -/
def fnWindowCard : Claim7 := { stood := { row := fnWindowRow, standIns := [], harness := (true, "48c1acf00456f55cf0bfb8d841c687a37e944a29a4cf40a12425540d5c122e10"), looks := false }, kinds := [], alts := [], laidByText := true, laidKinds := [.data, .data, .data, .data, .sentinel, .sentinel, .pinned, .pinned], laidTests := true, laidLooks := .later }
def FnWindowCardSaid : Prop := Claim7.holds Tryz.pinned (.plain (OpenSpec.ofChange fnWindowSpec)) fnWindowCard

/-- THE TIED CARD OF 'laws.FnWrite'. -/
def fnWriteCard : Claim7 := { stood := { row := fnWriteRow, standIns := [], harness := (true, "48c1acf00456f55cf0bfb8d841c687a37e944a29a4cf40a12425540d5c122e10"), looks := false }, kinds := [], alts := [], laidByText := true, laidKinds := [.data, .data, .data, .data, .sentinel, .sentinel, .pinned, .pinned], laidTests := true, laidLooks := .later }
def FnWriteCardSaid : Prop := Claim7.holds Tryz.pinned (.plain (OpenSpec.ofChange fnWriteSpec)) fnWriteCard

/-- THE SECOND FORM's CARD OF 'laws.FnWhole'. -/
def fnWholeUptoCard : Claim7 := { stood := { row := fnWholeUptoRow, standIns := [], harness := (true, "48c1acf00456f55cf0bfb8d841c687a37e944a29a4cf40a12425540d5c122e10"), looks := false }, kinds := [], alts := [], laidByText := true, laidKinds := [.data, .data, .data, .data, .sentinel, .sentinel, .pinned, .pinned], laidTests := true, laidLooks := .later }
def FnWholeUptoCardSaid : Prop := Claim7.holds Tryz.pinned (.plain (OpenSpec.upto fnWholeSpec)) fnWholeUptoCard

/-- THE SECOND FORM's CARD OF 'laws.FnWindow'. -/
def fnWindowUptoCard : Claim7 := { stood := { row := fnWindowUptoRow, standIns := [], harness := (true, "48c1acf00456f55cf0bfb8d841c687a37e944a29a4cf40a12425540d5c122e10"), looks := false }, kinds := [], alts := [], laidByText := true, laidKinds := [.data, .data, .data, .data, .sentinel, .sentinel, .pinned, .pinned], laidTests := true, laidLooks := .later }
def FnWindowUptoCardSaid : Prop := Claim7.holds Tryz.pinned (.plain (OpenSpec.upto fnWindowSpec)) fnWindowUptoCard

/-- THE SECOND FORM's CARD OF 'laws.FnWrite'. -/
def fnWriteUptoCard : Claim7 := { stood := { row := fnWriteUptoRow, standIns := [], harness := (true, "48c1acf00456f55cf0bfb8d841c687a37e944a29a4cf40a12425540d5c122e10"), looks := false }, kinds := [], alts := [], laidByText := true, laidKinds := [.data, .data, .data, .data, .sentinel, .sentinel, .pinned, .pinned], laidTests := true, laidLooks := .later }
def FnWriteUptoCardSaid : Prop := Claim7.holds Tryz.pinned (.plain (OpenSpec.upto fnWriteSpec)) fnWriteUptoCard
end Rows
end Go.Proofs.YtlphcidpaidclaaGreatDoor

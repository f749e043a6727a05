/-
  DERIVED. GIVEN WITH THE SEED: THE CARDS: each row of YtkpnomdmnhhaoaaGreatDoorRows.lean that lists a variable, with what it lists TIED to the program's text (the seventh form; the later family's looks); each row that meets fmt, with fmt's text TOLD by the authors' own Lean function (tested against real Go, not proved from fmt's source: count such statements apart). THE CARD IS WHAT COUNTS. Prove the row's statement (the work); the ties are given (YtkpnomdmnhhaoaaGreatDoorTie.lean); close each card by the builder's one call (the guide's Derived/Test/ToyasCard.lean, 'card_holds'). Laid BY PROGRAM, IN A SANDBOX (cutbox-door.mjs). By AI agents, Wed Nov 11 2026. No macro, syntax, notation, axiom, sorry.
-/
import Derived.Test.YtkpnomdmnhhaoaaGreatDoorRows
import GoSem.ClaimSeven
namespace Go.Proofs.YtkpnomdmnhhaoaaGreatDoor
namespace Rows

/-- THE TIED CARD OF 'laws.FnFjValueElements'. -/
def fnFjValueElementsCard : Claim7 := { stood := { row := fnFjValueElementsRow, standIns := [], harness := (true, "98589508be72e5652ae8d8ae7967d158d122ddbe435cb6d5b2ee33c57c2bd51c"), looks := true }, kinds := [], alts := [], laidByText := true, laidKinds := [.data, .data, .data, .data, .sentinel, .sentinel, .pinned, .pinned, .pinned, .pinned, .pinned, .pinned], laidTests := true, laidLooks := .later }
def FnFjValueElementsCardSaid : Prop := Claim7.holds Tryz.pinned (.plain (OpenSpec.ofChange fnFjValueElementsSpec)) fnFjValueElementsCard

/-- THE TIED CARD OF 'laws.FnFjTail'. -/
def fnFjTailCard : Claim7 := { stood := { row := fnFjTailRow, standIns := [], harness := (true, "98589508be72e5652ae8d8ae7967d158d122ddbe435cb6d5b2ee33c57c2bd51c"), looks := true }, kinds := [], alts := [], laidByText := true, laidKinds := [.data, .data, .data, .data, .sentinel, .sentinel, .pinned, .pinned, .pinned, .pinned, .pinned, .pinned], laidTests := true, laidLooks := .later }
def FnFjTailCardSaid : Prop := Claim7.holds Tryz.pinned (.plain (OpenSpec.ofChange fnFjTailSpec)) fnFjTailCard

/-- THE SECOND FORM's CARD OF 'laws.FnFjValueElements'. -/
def fnFjValueElementsUptoCard : Claim7 := { stood := { row := fnFjValueElementsUptoRow, standIns := [], harness := (true, "98589508be72e5652ae8d8ae7967d158d122ddbe435cb6d5b2ee33c57c2bd51c"), looks := true }, kinds := [], alts := [], laidByText := true, laidKinds := [.data, .data, .data, .data, .sentinel, .sentinel, .pinned, .pinned, .pinned, .pinned, .pinned, .pinned], laidTests := true, laidLooks := .later }
def FnFjValueElementsUptoCardSaid : Prop := Claim7.holds Tryz.pinned (.plain (OpenSpec.upto fnFjValueElementsSpec)) fnFjValueElementsUptoCard

/-- THE SECOND FORM's CARD OF 'laws.FnFjTail'. -/
def fnFjTailUptoCard : Claim7 := { stood := { row := fnFjTailUptoRow, standIns := [], harness := (true, "98589508be72e5652ae8d8ae7967d158d122ddbe435cb6d5b2ee33c57c2bd51c"), looks := true }, kinds := [], alts := [], laidByText := true, laidKinds := [.data, .data, .data, .data, .sentinel, .sentinel, .pinned, .pinned, .pinned, .pinned, .pinned, .pinned], laidTests := true, laidLooks := .later }
def FnFjTailUptoCardSaid : Prop := Claim7.holds Tryz.pinned (.plain (OpenSpec.upto fnFjTailSpec)) fnFjTailUptoCard
end Rows
end Go.Proofs.YtkpnomdmnhhaoaaGreatDoor

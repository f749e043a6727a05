/-
  DERIVED. GIVEN WITH THE SEED: THE CARDS: each row of YtlfebfkphgelfaaGreatDoorRows.lean that lists a variable, with what it lists TIED to the program's text (the seventh form; the later family's looks); each row that meets fmt, with fmt's text TOLD by the authors' own Lean function (tested against real Go, not proved from fmt's source: count such statements apart). THE CARD IS WHAT COUNTS. Prove the row's statement (the work); the ties are given (YtlfebfkphgelfaaGreatDoorTie.lean); close each card by the builder's one call (the guide's Derived/Test/ToyasCard.lean, 'card_holds'). Laid BY PROGRAM, IN A SANDBOX (cutbox-door.mjs). By AI agents, Wed Nov 11 2026. No macro, syntax, notation, axiom, sorry.
-/
import Derived.Test.YtlfebfkphgelfaaGreatDoorRows
import GoSem.ClaimSeven
namespace Go.Proofs.YtlfebfkphgelfaaGreatDoor
namespace Rows

/-- THE TIED CARD OF 'laws.FnJpSetDelete'. -/
def fnJpSetDeleteCard : Claim7 := { stood := { row := fnJpSetDeleteRow, standIns := [], harness := (true, "9f45930a6854e05103ba33437b621d501c20be32d79b8343121a07568911cf6c"), looks := true }, kinds := [], alts := [], laidByText := true, laidKinds := [.data, .data, .data, .sentinel, .sentinel, .data, .data, .sentinel, .sentinel, .sentinel, .sentinel, .sentinel, .sentinel, .sentinel], laidTests := true, laidLooks := .later }
def FnJpSetDeleteCardSaid : Prop := Claim7.holds Tryz.pinned (.plain (OpenSpec.ofChange fnJpSetDeleteSpec)) fnJpSetDeleteCard

/-- THE TIED CARD OF 'laws.FnJpDeleteGet'. -/
def fnJpDeleteGetCard : Claim7 := { stood := { row := fnJpDeleteGetRow, standIns := [], harness := (true, "9f45930a6854e05103ba33437b621d501c20be32d79b8343121a07568911cf6c"), looks := true }, kinds := [], alts := [], laidByText := true, laidKinds := [.data, .data, .data, .sentinel, .sentinel, .data, .data, .sentinel, .sentinel, .sentinel, .sentinel, .sentinel, .sentinel, .sentinel], laidTests := true, laidLooks := .later }
def FnJpDeleteGetCardSaid : Prop := Claim7.holds Tryz.pinned (.plain (OpenSpec.ofChange fnJpDeleteGetSpec)) fnJpDeleteGetCard

/-- THE TIED CARD OF 'laws.FnJqAppendNew'. -/
def fnJqAppendNewCard : Claim7 := { stood := { row := fnJqAppendNewRow, standIns := [], harness := (true, "9f45930a6854e05103ba33437b621d501c20be32d79b8343121a07568911cf6c"), looks := true }, kinds := [], alts := [], laidByText := true, laidKinds := [.data, .data, .data, .sentinel, .sentinel, .data, .data, .sentinel, .sentinel, .sentinel, .sentinel, .sentinel, .sentinel, .sentinel], laidTests := true, laidLooks := .later }
def FnJqAppendNewCardSaid : Prop := Claim7.holds Tryz.pinned (.plain (OpenSpec.ofChange fnJqAppendNewSpec)) fnJqAppendNewCard

/-- THE SECOND FORM's CARD OF 'laws.FnJpSetDelete'. -/
def fnJpSetDeleteUptoCard : Claim7 := { stood := { row := fnJpSetDeleteUptoRow, standIns := [], harness := (true, "9f45930a6854e05103ba33437b621d501c20be32d79b8343121a07568911cf6c"), looks := true }, kinds := [], alts := [], laidByText := true, laidKinds := [.data, .data, .data, .sentinel, .sentinel, .data, .data, .sentinel, .sentinel, .sentinel, .sentinel, .sentinel, .sentinel, .sentinel], laidTests := true, laidLooks := .later }
def FnJpSetDeleteUptoCardSaid : Prop := Claim7.holds Tryz.pinned (.plain (OpenSpec.upto fnJpSetDeleteSpec)) fnJpSetDeleteUptoCard

/-- THE SECOND FORM's CARD OF 'laws.FnJpDeleteGet'. -/
def fnJpDeleteGetUptoCard : Claim7 := { stood := { row := fnJpDeleteGetUptoRow, standIns := [], harness := (true, "9f45930a6854e05103ba33437b621d501c20be32d79b8343121a07568911cf6c"), looks := true }, kinds := [], alts := [], laidByText := true, laidKinds := [.data, .data, .data, .sentinel, .sentinel, .data, .data, .sentinel, .sentinel, .sentinel, .sentinel, .sentinel, .sentinel, .sentinel], laidTests := true, laidLooks := .later }
def FnJpDeleteGetUptoCardSaid : Prop := Claim7.holds Tryz.pinned (.plain (OpenSpec.upto fnJpDeleteGetSpec)) fnJpDeleteGetUptoCard

/-- THE SECOND FORM's CARD OF 'laws.FnJqAppendNew'. -/
def fnJqAppendNewUptoCard : Claim7 := { stood := { row := fnJqAppendNewUptoRow, standIns := [], harness := (true, "9f45930a6854e05103ba33437b621d501c20be32d79b8343121a07568911cf6c"), looks := true }, kinds := [], alts := [], laidByText := true, laidKinds := [.data, .data, .data, .sentinel, .sentinel, .data, .data, .sentinel, .sentinel, .sentinel, .sentinel, .sentinel, .sentinel, .sentinel], laidTests := true, laidLooks := .later }
def FnJqAppendNewUptoCardSaid : Prop := Claim7.holds Tryz.pinned (.plain (OpenSpec.upto fnJqAppendNewSpec)) fnJqAppendNewUptoCard
end Rows
end Go.Proofs.YtlfebfkphgelfaaGreatDoor

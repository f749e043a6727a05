/-
  DERIVED. GIVEN WITH THE SEED: THE CARDS: each row of YtbmmpnjpejamaaaDoorRows.lean that lists a variable, with what it lists TIED to the program's text (the seventh form; the later family's looks); each row that meets fmt, with fmt's text TOLD by the authors' own Lean function (tested against real Go, not proved from fmt's source: count such statements apart). THE CARD IS WHAT COUNTS. Prove the row's statement (the work); the ties are given (YtbmmpnjpejamaaaDoorTie.lean); close each card by the builder's one call (the guide's Derived/Test/ToyasCard.lean, 'card_holds'). Laid BY PROGRAM, IN A SANDBOX (cutbox-door.mjs). By AI agents, Wed Nov 11 2026. No macro, syntax, notation, axiom, sorry.
-/
import Derived.Test.YtbmmpnjpejamaaaDoorRows
import GoSem.ClaimSeven
namespace Go.Proofs.YtbmmpnjpejamaaaDoor
namespace Rows

/-- THE TIED CARD OF 'laws.FnFjBuildBytes'. -/
def fnFjBuildBytesCard : Claim7 := { stood := { row := fnFjBuildBytesRow, standIns := [], harness := (true, "d4b347f988f1ae5ab59ef40cb2d760d220a8a147c564998fba64160f5d5fd91d"), looks := true }, kinds := [], alts := [], laidByText := true, laidKinds := [.data, .pinned, .pinned, .pinned, .pinned, .pinned, .pinned], laidTests := true, laidLooks := .later }
def FnFjBuildBytesCardSaid : Prop := Claim7.holds Tryd.pinned (.plain (OpenSpec.ofChange fnFjBuildBytesSpec)) fnFjBuildBytesCard

/-- THE TIED CARD OF 'laws.FnGjUnescapeAny'. -/
def fnGjUnescapeAnyCard : Claim7 := { stood := { row := fnGjUnescapeAnyRow, standIns := [], harness := (true, "d4b347f988f1ae5ab59ef40cb2d760d220a8a147c564998fba64160f5d5fd91d"), looks := true }, kinds := [], alts := [], laidByText := true, laidKinds := [.data, .data, .data, .sentinel, .sentinel], laidTests := true, laidLooks := .later }
def FnGjUnescapeAnyCardSaid : Prop := Claim7.holds Tryd.pinned (.plain (OpenSpec.ofChange fnGjUnescapeAnySpec)) fnGjUnescapeAnyCard

/-- THE TIED CARD OF 'laws.FnFjBuildInt'. -/
def fnFjBuildIntCard : Claim7 := { stood := { row := fnFjBuildIntRow, standIns := [], harness := (true, "d4b347f988f1ae5ab59ef40cb2d760d220a8a147c564998fba64160f5d5fd91d"), looks := true }, kinds := [], alts := [], laidByText := true, laidKinds := [.data, .data, .data, .data, .pinned, .pinned, .pinned, .pinned, .pinned, .pinned], laidTests := true, laidLooks := .later }
def FnFjBuildIntCardSaid : Prop := Claim7.holds Tryd.pinned (.plain (OpenSpec.ofChange fnFjBuildIntSpec)) fnFjBuildIntCard

/-- THE TIED CARD OF 'laws.FnFjNumberUint'. -/
def fnFjNumberUintCard : Claim7 := { stood := { row := fnFjNumberUintRow, standIns := [], harness := (true, "d4b347f988f1ae5ab59ef40cb2d760d220a8a147c564998fba64160f5d5fd91d"), looks := true }, kinds := [], alts := [], laidByText := true, laidKinds := [.data, .data, .data, .sentinel, .sentinel], laidTests := true, laidLooks := .later }
def FnFjNumberUintCardSaid : Prop := Claim7.holds Tryd.pinned (.plain (OpenSpec.ofChange fnFjNumberUintSpec)) fnFjNumberUintCard

/-- THE TIED CARD OF 'laws.FnPaGet'. -/
def fnPaGetCard : Claim7 := { stood := { row := fnPaGetRow, standIns := [], harness := (true, "d4b347f988f1ae5ab59ef40cb2d760d220a8a147c564998fba64160f5d5fd91d"), looks := true }, kinds := [], alts := [], laidByText := true, laidKinds := [.sentinel, .sentinel], laidTests := true, laidLooks := .later }
def FnPaGetCardSaid : Prop := Claim7.holds Tryd.pinned (.plain (OpenSpec.ofChange fnPaGetSpec)) fnPaGetCard

/-- THE TIED CARD OF 'laws.FnGjQuoteUnescape'. -/
def fnGjQuoteUnescapeCard : Claim7 := { stood := { row := fnGjQuoteUnescapeRow, standIns := [], harness := (true, "d4b347f988f1ae5ab59ef40cb2d760d220a8a147c564998fba64160f5d5fd91d"), looks := true }, kinds := [], alts := [], laidByText := true, laidKinds := [.data, .data, .data, .data, .sentinel, .sentinel, .data, .pinned], laidTests := true, laidLooks := .later }
def FnGjQuoteUnescapeCardSaid : Prop := Claim7.holds Tryd.pinned (.plain (OpenSpec.ofChange fnGjQuoteUnescapeSpec)) fnGjQuoteUnescapeCard

/-- THE SECOND FORM's CARD OF 'laws.FnFjBuildBytes'. -/
def fnFjBuildBytesUptoCard : Claim7 := { stood := { row := fnFjBuildBytesUptoRow, standIns := [], harness := (true, "d4b347f988f1ae5ab59ef40cb2d760d220a8a147c564998fba64160f5d5fd91d"), looks := true }, kinds := [], alts := [], laidByText := true, laidKinds := [.data, .pinned, .pinned, .pinned, .pinned, .pinned, .pinned], laidTests := true, laidLooks := .later }
def FnFjBuildBytesUptoCardSaid : Prop := Claim7.holds Tryd.pinned (.plain (OpenSpec.upto fnFjBuildBytesSpec)) fnFjBuildBytesUptoCard

/-- THE SECOND FORM's CARD OF 'laws.FnGjUnescapeAny'. -/
def fnGjUnescapeAnyUptoCard : Claim7 := { stood := { row := fnGjUnescapeAnyUptoRow, standIns := [], harness := (true, "d4b347f988f1ae5ab59ef40cb2d760d220a8a147c564998fba64160f5d5fd91d"), looks := true }, kinds := [], alts := [], laidByText := true, laidKinds := [.data, .data, .data, .sentinel, .sentinel], laidTests := true, laidLooks := .later }
def FnGjUnescapeAnyUptoCardSaid : Prop := Claim7.holds Tryd.pinned (.plain (OpenSpec.upto fnGjUnescapeAnySpec)) fnGjUnescapeAnyUptoCard

/-- THE SECOND FORM's CARD OF 'laws.FnFjBuildInt'. -/
def fnFjBuildIntUptoCard : Claim7 := { stood := { row := fnFjBuildIntUptoRow, standIns := [], harness := (true, "d4b347f988f1ae5ab59ef40cb2d760d220a8a147c564998fba64160f5d5fd91d"), looks := true }, kinds := [], alts := [], laidByText := true, laidKinds := [.data, .data, .data, .data, .pinned, .pinned, .pinned, .pinned, .pinned, .pinned], laidTests := true, laidLooks := .later }
def FnFjBuildIntUptoCardSaid : Prop := Claim7.holds Tryd.pinned (.plain (OpenSpec.upto fnFjBuildIntSpec)) fnFjBuildIntUptoCard

/-- THE SECOND FORM's CARD OF 'laws.FnFjNumberUint'. -/
def fnFjNumberUintUptoCard : Claim7 := { stood := { row := fnFjNumberUintUptoRow, standIns := [], harness := (true, "d4b347f988f1ae5ab59ef40cb2d760d220a8a147c564998fba64160f5d5fd91d"), looks := true }, kinds := [], alts := [], laidByText := true, laidKinds := [.data, .data, .data, .sentinel, .sentinel], laidTests := true, laidLooks := .later }
def FnFjNumberUintUptoCardSaid : Prop := Claim7.holds Tryd.pinned (.plain (OpenSpec.upto fnFjNumberUintSpec)) fnFjNumberUintUptoCard

/-- THE SECOND FORM's CARD OF 'laws.FnPaGet'. -/
def fnPaGetUptoCard : Claim7 := { stood := { row := fnPaGetUptoRow, standIns := [], harness := (true, "d4b347f988f1ae5ab59ef40cb2d760d220a8a147c564998fba64160f5d5fd91d"), looks := true }, kinds := [], alts := [], laidByText := true, laidKinds := [.sentinel, .sentinel], laidTests := true, laidLooks := .later }
def FnPaGetUptoCardSaid : Prop := Claim7.holds Tryd.pinned (.plain (OpenSpec.upto fnPaGetSpec)) fnPaGetUptoCard

/-- THE SECOND FORM's CARD OF 'laws.FnGjQuoteUnescape'. -/
def fnGjQuoteUnescapeUptoCard : Claim7 := { stood := { row := fnGjQuoteUnescapeUptoRow, standIns := [], harness := (true, "d4b347f988f1ae5ab59ef40cb2d760d220a8a147c564998fba64160f5d5fd91d"), looks := true }, kinds := [], alts := [], laidByText := true, laidKinds := [.data, .data, .data, .data, .sentinel, .sentinel, .data, .pinned], laidTests := true, laidLooks := .later }
def FnGjQuoteUnescapeUptoCardSaid : Prop := Claim7.holds Tryd.pinned (.plain (OpenSpec.upto fnGjQuoteUnescapeSpec)) fnGjQuoteUnescapeUptoCard
end Rows
end Go.Proofs.YtbmmpnjpejamaaaDoor

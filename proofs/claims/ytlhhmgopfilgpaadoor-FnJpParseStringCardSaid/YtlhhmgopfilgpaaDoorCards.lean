/-
  DERIVED. GIVEN WITH THE SEED: THE CARDS: each row of YtlhhmgopfilgpaaDoorRows.lean that lists a variable, with what it lists TIED to the program's text (the seventh form; the later family's looks); each row that meets fmt, with fmt's text TOLD by the authors' own Lean function (tested against real Go, not proved from fmt's source: count such statements apart). THE CARD IS WHAT COUNTS. Prove the row's statement (the work); the ties are given (YtlhhmgopfilgpaaDoorTie.lean); close each card by the builder's one call (the guide's Derived/Test/ToyasCard.lean, 'card_holds'). Laid BY PROGRAM, IN A SANDBOX (cutbox-door.mjs). By AI agents, Wed Nov 11 2026. No macro, syntax, notation, axiom, sorry.
-/
import Derived.Test.YtlhhmgopfilgpaaDoorRows
import GoSem.ClaimSeven
namespace Go.Proofs.YtlhhmgopfilgpaaDoor
namespace Rows

/-- THE TIED CARD OF 'laws.FnJrParseInt'. -/
def fnJrParseIntCard : Claim7 := { stood := { row := fnJrParseIntRow, standIns := [], harness := (true, "67caaa81588ead9016b86a8a18b157999f55c03da26f16cc0f0744174b14b01e"), looks := true }, kinds := [], alts := [], laidByText := true, laidKinds := [.sentinel, .sentinel, .sentinel, .sentinel, .sentinel, .sentinel, .sentinel, .sentinel, .sentinel, .sentinel], laidTests := true, laidLooks := .later }
def FnJrParseIntCardSaid : Prop := Claim7.holds Tryd.pinned (.plain (OpenSpec.ofChange fnJrParseIntSpec)) fnJrParseIntCard

/-- THE TIED CARD OF 'laws.FnGjQuote'. -/
def fnGjQuoteCard : Claim7 := { stood := { row := fnGjQuoteRow, standIns := [], harness := (true, "67caaa81588ead9016b86a8a18b157999f55c03da26f16cc0f0744174b14b01e"), looks := true }, kinds := [], alts := [], laidByText := true, laidKinds := [.data, .data, .pinned], laidTests := true, laidLooks := .later }
def FnGjQuoteCardSaid : Prop := Claim7.holds Tryd.pinned (.plain (OpenSpec.ofChange fnGjQuoteSpec)) fnGjQuoteCard

/-- THE TIED CARD OF 'laws.FnMtBehind'. -/
def fnMtBehindCard : Claim7 := { stood := { row := fnMtBehindRow, standIns := [], harness := (true, "67caaa81588ead9016b86a8a18b157999f55c03da26f16cc0f0744174b14b01e"), looks := true }, kinds := [], alts := [], laidByText := true, laidKinds := [.data, .pinned], laidTests := true, laidLooks := .later }
def FnMtBehindCardSaid : Prop := Claim7.holds Tryd.pinned (.plain (OpenSpec.ofChange fnMtBehindSpec)) fnMtBehindCard

/-- THE TIED CARD OF 'laws.FnJpParseString'. -/
def fnJpParseStringCard : Claim7 := { stood := { row := fnJpParseStringRow, standIns := [], harness := (true, "67caaa81588ead9016b86a8a18b157999f55c03da26f16cc0f0744174b14b01e"), looks := true }, kinds := [], alts := [], laidByText := true, laidKinds := [.data, .data, .sentinel, .sentinel], laidTests := true, laidLooks := .later }
def FnJpParseStringCardSaid : Prop := Claim7.holds Tryd.pinned (.plain (OpenSpec.ofChange fnJpParseStringSpec)) fnJpParseStringCard

/-- THE TIED CARD OF 'laws.FnMtLimit'. -/
def fnMtLimitCard : Claim7 := { stood := { row := fnMtLimitRow, standIns := [], harness := (true, "67caaa81588ead9016b86a8a18b157999f55c03da26f16cc0f0744174b14b01e"), looks := true }, kinds := [], alts := [], laidByText := true, laidKinds := [.data, .pinned], laidTests := true, laidLooks := .later }
def FnMtLimitCardSaid : Prop := Claim7.holds Tryd.pinned (.plain (OpenSpec.ofChange fnMtLimitSpec)) fnMtLimitCard

/-- THE SECOND FORM's CARD OF 'laws.FnJrParseInt'. -/
def fnJrParseIntUptoCard : Claim7 := { stood := { row := fnJrParseIntUptoRow, standIns := [], harness := (true, "67caaa81588ead9016b86a8a18b157999f55c03da26f16cc0f0744174b14b01e"), looks := true }, kinds := [], alts := [], laidByText := true, laidKinds := [.sentinel, .sentinel, .sentinel, .sentinel, .sentinel, .sentinel, .sentinel, .sentinel, .sentinel, .sentinel], laidTests := true, laidLooks := .later }
def FnJrParseIntUptoCardSaid : Prop := Claim7.holds Tryd.pinned (.plain (OpenSpec.upto fnJrParseIntSpec)) fnJrParseIntUptoCard

/-- THE SECOND FORM's CARD OF 'laws.FnGjQuote'. -/
def fnGjQuoteUptoCard : Claim7 := { stood := { row := fnGjQuoteUptoRow, standIns := [], harness := (true, "67caaa81588ead9016b86a8a18b157999f55c03da26f16cc0f0744174b14b01e"), looks := true }, kinds := [], alts := [], laidByText := true, laidKinds := [.data, .data, .pinned], laidTests := true, laidLooks := .later }
def FnGjQuoteUptoCardSaid : Prop := Claim7.holds Tryd.pinned (.plain (OpenSpec.upto fnGjQuoteSpec)) fnGjQuoteUptoCard

/-- THE SECOND FORM's CARD OF 'laws.FnMtBehind'. -/
def fnMtBehindUptoCard : Claim7 := { stood := { row := fnMtBehindUptoRow, standIns := [], harness := (true, "67caaa81588ead9016b86a8a18b157999f55c03da26f16cc0f0744174b14b01e"), looks := true }, kinds := [], alts := [], laidByText := true, laidKinds := [.data, .pinned], laidTests := true, laidLooks := .later }
def FnMtBehindUptoCardSaid : Prop := Claim7.holds Tryd.pinned (.plain (OpenSpec.upto fnMtBehindSpec)) fnMtBehindUptoCard

/-- THE SECOND FORM's CARD OF 'laws.FnJpParseString'. -/
def fnJpParseStringUptoCard : Claim7 := { stood := { row := fnJpParseStringUptoRow, standIns := [], harness := (true, "67caaa81588ead9016b86a8a18b157999f55c03da26f16cc0f0744174b14b01e"), looks := true }, kinds := [], alts := [], laidByText := true, laidKinds := [.data, .data, .sentinel, .sentinel], laidTests := true, laidLooks := .later }
def FnJpParseStringUptoCardSaid : Prop := Claim7.holds Tryd.pinned (.plain (OpenSpec.upto fnJpParseStringSpec)) fnJpParseStringUptoCard

/-- THE SECOND FORM's CARD OF 'laws.FnMtLimit'. -/
def fnMtLimitUptoCard : Claim7 := { stood := { row := fnMtLimitUptoRow, standIns := [], harness := (true, "67caaa81588ead9016b86a8a18b157999f55c03da26f16cc0f0744174b14b01e"), looks := true }, kinds := [], alts := [], laidByText := true, laidKinds := [.data, .pinned], laidTests := true, laidLooks := .later }
def FnMtLimitUptoCardSaid : Prop := Claim7.holds Tryd.pinned (.plain (OpenSpec.upto fnMtLimitSpec)) fnMtLimitUptoCard
end Rows
end Go.Proofs.YtlhhmgopfilgpaaDoor

/-
  DERIVED. GIVEN WITH THE SEED: THE CARDS: each row of YtlfebfkphgelfaaDoorRows.lean that lists a variable, with what it lists TIED to the program's text (the seventh form; the later family's looks); each row that meets fmt, with fmt's text TOLD by the authors' own Lean function (tested against real Go, not proved from fmt's source: count such statements apart). THE CARD IS WHAT COUNTS. Prove the row's statement (the work); the ties are given (YtlfebfkphgelfaaDoorTie.lean); close each card by the builder's one call (the guide's Derived/Test/ToyasCard.lean, 'card_holds'). Laid BY PROGRAM, IN A SANDBOX (cutbox-door.mjs). By AI agents, Wed Nov 11 2026. No macro, syntax, notation, axiom, sorry.
-/
import Derived.Test.YtlfebfkphgelfaaDoorRows
import GoSem.ClaimSeven
namespace Go.Proofs.YtlfebfkphgelfaaDoor
namespace Rows

/-- THE TIED CARD OF 'laws.FnJpSetTwice'. -/
def fnJpSetTwiceCard : Claim7 := { stood := { row := fnJpSetTwiceRow, standIns := [], harness := (true, "a449ac6309a0a24e8af00d6974aec911e2d064b0b041161c7904ca8b440370ad"), looks := true }, kinds := [], alts := [], laidByText := true, laidKinds := [.data, .data, .data, .sentinel, .sentinel, .data, .data, .sentinel, .sentinel, .sentinel, .sentinel, .sentinel, .sentinel, .sentinel], laidTests := true, laidLooks := .later }
def FnJpSetTwiceCardSaid : Prop := Claim7.holds Tryd.pinned (.plain (OpenSpec.ofChange fnJpSetTwiceSpec)) fnJpSetTwiceCard

/-- THE TIED CARD OF 'laws.FnJqReadArray'. -/
def fnJqReadArrayCard : Claim7 := { stood := { row := fnJqReadArrayRow, standIns := [], harness := (true, "a449ac6309a0a24e8af00d6974aec911e2d064b0b041161c7904ca8b440370ad"), looks := true }, kinds := [], alts := [], laidByText := true, laidKinds := [.data, .data, .data, .sentinel, .sentinel, .sentinel, .sentinel, .data, .data, .sentinel, .sentinel, .sentinel, .sentinel, .sentinel, .sentinel, .sentinel], laidTests := true, laidLooks := .later }
def FnJqReadArrayCardSaid : Prop := Claim7.holds Tryd.pinned (.plain (OpenSpec.ofChange fnJqReadArraySpec)) fnJqReadArrayCard

/-- THE SECOND FORM's CARD OF 'laws.FnJpSetTwice'. -/
def fnJpSetTwiceUptoCard : Claim7 := { stood := { row := fnJpSetTwiceUptoRow, standIns := [], harness := (true, "a449ac6309a0a24e8af00d6974aec911e2d064b0b041161c7904ca8b440370ad"), looks := true }, kinds := [], alts := [], laidByText := true, laidKinds := [.data, .data, .data, .sentinel, .sentinel, .data, .data, .sentinel, .sentinel, .sentinel, .sentinel, .sentinel, .sentinel, .sentinel], laidTests := true, laidLooks := .later }
def FnJpSetTwiceUptoCardSaid : Prop := Claim7.holds Tryd.pinned (.plain (OpenSpec.upto fnJpSetTwiceSpec)) fnJpSetTwiceUptoCard

/-- THE SECOND FORM's CARD OF 'laws.FnJqReadArray'. -/
def fnJqReadArrayUptoCard : Claim7 := { stood := { row := fnJqReadArrayUptoRow, standIns := [], harness := (true, "a449ac6309a0a24e8af00d6974aec911e2d064b0b041161c7904ca8b440370ad"), looks := true }, kinds := [], alts := [], laidByText := true, laidKinds := [.data, .data, .data, .sentinel, .sentinel, .sentinel, .sentinel, .data, .data, .sentinel, .sentinel, .sentinel, .sentinel, .sentinel, .sentinel, .sentinel], laidTests := true, laidLooks := .later }
def FnJqReadArrayUptoCardSaid : Prop := Claim7.holds Tryd.pinned (.plain (OpenSpec.upto fnJqReadArraySpec)) fnJqReadArrayUptoCard
end Rows
end Go.Proofs.YtlfebfkphgelfaaDoor

/-
  DERIVED. GIVEN WITH THE SEED: THE CARDS: each row of YtcjphnppedmbdaaDoorRows.lean that lists a variable, with what it lists TIED to the program's text (the seventh form; the later family's looks); each row that meets fmt, with fmt's text TOLD by the authors' own Lean function (tested against real Go, not proved from fmt's source: count such statements apart). THE CARD IS WHAT COUNTS. Prove the row's statement (the work); the ties are given (YtcjphnppedmbdaaDoorTie.lean); close each card by the builder's one call (the guide's Derived/Test/ToyasCard.lean, 'card_holds'). Laid BY PROGRAM, IN A SANDBOX (cutbox-door.mjs). By AI agents, Wed Nov 11 2026. No macro, syntax, notation, axiom, sorry.
-/
import Derived.Test.YtcjphnppedmbdaaDoorRows
import GoSem.ClaimSeven
namespace Go.Proofs.YtcjphnppedmbdaaDoor
namespace Rows

/-- THE TIED CARD OF 'laws.FnJpArrayNone'. -/
def fnJpArrayNoneCard : Claim7 := { stood := { row := fnJpArrayNoneRow, standIns := [], harness := (true, "a1b14014260aea7f562552f0f9bf78a54de59971c80140b68c16b24d9e1a9c47"), looks := true }, kinds := [], alts := [], laidByText := true, laidKinds := [.data, .data, .data, .sentinel, .sentinel, .data, .data, .sentinel, .sentinel, .sentinel, .sentinel, .sentinel, .sentinel, .sentinel], laidTests := true, laidLooks := .later }
def FnJpArrayNoneCardSaid : Prop := Claim7.holds Tryd.pinned (.plain (OpenSpec.ofChange fnJpArrayNoneSpec)) fnJpArrayNoneCard

/-- THE TIED CARD OF 'laws.FnJpGetString'. -/
def fnJpGetStringCard : Claim7 := { stood := { row := fnJpGetStringRow, standIns := [], harness := (true, "a1b14014260aea7f562552f0f9bf78a54de59971c80140b68c16b24d9e1a9c47"), looks := true }, kinds := [], alts := [], laidByText := true, laidKinds := [.data, .data, .data, .sentinel, .sentinel, .data, .data, .sentinel, .sentinel, .sentinel, .sentinel, .sentinel, .sentinel, .sentinel, .sentinel, .sentinel], laidTests := true, laidLooks := .later }
def FnJpGetStringCardSaid : Prop := Claim7.holds Tryd.pinned (.plain (OpenSpec.ofChange fnJpGetStringSpec)) fnJpGetStringCard

/-- THE TIED CARD OF 'laws.FnJpSetTwice'. -/
def fnJpSetTwiceCard : Claim7 := { stood := { row := fnJpSetTwiceRow, standIns := [], harness := (true, "a1b14014260aea7f562552f0f9bf78a54de59971c80140b68c16b24d9e1a9c47"), looks := true }, kinds := [], alts := [], laidByText := true, laidKinds := [.data, .data, .data, .sentinel, .sentinel, .data, .data, .sentinel, .sentinel, .sentinel, .sentinel, .sentinel, .sentinel, .sentinel], laidTests := true, laidLooks := .later }
def FnJpSetTwiceCardSaid : Prop := Claim7.holds Tryd.pinned (.plain (OpenSpec.ofChange fnJpSetTwiceSpec)) fnJpSetTwiceCard

/-- THE TIED CARD OF 'laws.FnJqReadArray'. -/
def fnJqReadArrayCard : Claim7 := { stood := { row := fnJqReadArrayRow, standIns := [], harness := (true, "a1b14014260aea7f562552f0f9bf78a54de59971c80140b68c16b24d9e1a9c47"), looks := true }, kinds := [], alts := [], laidByText := true, laidKinds := [.data, .data, .data, .sentinel, .sentinel, .sentinel, .sentinel, .data, .data, .sentinel, .sentinel, .sentinel, .sentinel, .sentinel, .sentinel, .sentinel], laidTests := true, laidLooks := .later }
def FnJqReadArrayCardSaid : Prop := Claim7.holds Tryd.pinned (.plain (OpenSpec.ofChange fnJqReadArraySpec)) fnJqReadArrayCard

/-- THE SECOND FORM's CARD OF 'laws.FnJpArrayNone'. -/
def fnJpArrayNoneUptoCard : Claim7 := { stood := { row := fnJpArrayNoneUptoRow, standIns := [], harness := (true, "a1b14014260aea7f562552f0f9bf78a54de59971c80140b68c16b24d9e1a9c47"), looks := true }, kinds := [], alts := [], laidByText := true, laidKinds := [.data, .data, .data, .sentinel, .sentinel, .data, .data, .sentinel, .sentinel, .sentinel, .sentinel, .sentinel, .sentinel, .sentinel], laidTests := true, laidLooks := .later }
def FnJpArrayNoneUptoCardSaid : Prop := Claim7.holds Tryd.pinned (.plain (OpenSpec.upto fnJpArrayNoneSpec)) fnJpArrayNoneUptoCard

/-- THE SECOND FORM's CARD OF 'laws.FnJpGetString'. -/
def fnJpGetStringUptoCard : Claim7 := { stood := { row := fnJpGetStringUptoRow, standIns := [], harness := (true, "a1b14014260aea7f562552f0f9bf78a54de59971c80140b68c16b24d9e1a9c47"), looks := true }, kinds := [], alts := [], laidByText := true, laidKinds := [.data, .data, .data, .sentinel, .sentinel, .data, .data, .sentinel, .sentinel, .sentinel, .sentinel, .sentinel, .sentinel, .sentinel, .sentinel, .sentinel], laidTests := true, laidLooks := .later }
def FnJpGetStringUptoCardSaid : Prop := Claim7.holds Tryd.pinned (.plain (OpenSpec.upto fnJpGetStringSpec)) fnJpGetStringUptoCard

/-- THE SECOND FORM's CARD OF 'laws.FnJpSetTwice'. -/
def fnJpSetTwiceUptoCard : Claim7 := { stood := { row := fnJpSetTwiceUptoRow, standIns := [], harness := (true, "a1b14014260aea7f562552f0f9bf78a54de59971c80140b68c16b24d9e1a9c47"), looks := true }, kinds := [], alts := [], laidByText := true, laidKinds := [.data, .data, .data, .sentinel, .sentinel, .data, .data, .sentinel, .sentinel, .sentinel, .sentinel, .sentinel, .sentinel, .sentinel], laidTests := true, laidLooks := .later }
def FnJpSetTwiceUptoCardSaid : Prop := Claim7.holds Tryd.pinned (.plain (OpenSpec.upto fnJpSetTwiceSpec)) fnJpSetTwiceUptoCard

/-- THE SECOND FORM's CARD OF 'laws.FnJqReadArray'. -/
def fnJqReadArrayUptoCard : Claim7 := { stood := { row := fnJqReadArrayUptoRow, standIns := [], harness := (true, "a1b14014260aea7f562552f0f9bf78a54de59971c80140b68c16b24d9e1a9c47"), looks := true }, kinds := [], alts := [], laidByText := true, laidKinds := [.data, .data, .data, .sentinel, .sentinel, .sentinel, .sentinel, .data, .data, .sentinel, .sentinel, .sentinel, .sentinel, .sentinel, .sentinel, .sentinel], laidTests := true, laidLooks := .later }
def FnJqReadArrayUptoCardSaid : Prop := Claim7.holds Tryd.pinned (.plain (OpenSpec.upto fnJqReadArraySpec)) fnJqReadArrayUptoCard
end Rows
end Go.Proofs.YtcjphnppedmbdaaDoor

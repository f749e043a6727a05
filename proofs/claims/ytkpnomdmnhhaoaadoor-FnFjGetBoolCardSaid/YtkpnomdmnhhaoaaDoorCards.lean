/-
  DERIVED. GIVEN WITH THE SEED: THE CARDS: each row of YtkpnomdmnhhaoaaDoorRows.lean that lists a variable, with what it lists TIED to the program's text (the seventh form; the later family's looks); each row that meets fmt, with fmt's text TOLD by the authors' own Lean function (tested against real Go, not proved from fmt's source: count such statements apart). THE CARD IS WHAT COUNTS. Prove the row's statement (the work); the ties are given (YtkpnomdmnhhaoaaDoorTie.lean); close each card by the builder's one call (the guide's Derived/Test/ToyasCard.lean, 'card_holds'). Laid BY PROGRAM, IN A SANDBOX (cutbox-door.mjs). By AI agents, Wed Nov 11 2026. No macro, syntax, notation, axiom, sorry.
-/
import Derived.Test.YtkpnomdmnhhaoaaDoorRows
import GoSem.ClaimSeven
namespace Go.Proofs.YtkpnomdmnhhaoaaDoor
namespace Rows

/-- THE TIED CARD OF 'laws.FnFjBoolBytes'. -/
def fnFjBoolBytesCard : Claim7 := { stood := { row := fnFjBoolBytesRow, standIns := [], harness := (true, "e916fee040c27cab294793600ec34cd43b65a98ecec10b7c58168bc8e6a979eb"), looks := true }, kinds := [], alts := [], laidByText := true, laidKinds := [.data, .data, .data, .sentinel, .sentinel], laidTests := true, laidLooks := .later }
def FnFjBoolBytesCardSaid : Prop := Claim7.holds Tryd.pinned (.plain (OpenSpec.ofChange fnFjBoolBytesSpec)) fnFjBoolBytesCard

/-- THE TIED CARD OF 'laws.FnFjGetBool'. -/
def fnFjGetBoolCard : Claim7 := { stood := { row := fnFjGetBoolRow, standIns := [], harness := (true, "e916fee040c27cab294793600ec34cd43b65a98ecec10b7c58168bc8e6a979eb"), looks := true }, kinds := [], alts := [], laidByText := true, laidKinds := [.data, .data, .data, .sentinel, .sentinel], laidTests := true, laidLooks := .later }
def FnFjGetBoolCardSaid : Prop := Claim7.holds Tryd.pinned (.plain (OpenSpec.ofChange fnFjGetBoolSpec)) fnFjGetBoolCard

/-- THE SECOND FORM's CARD OF 'laws.FnFjBoolBytes'. -/
def fnFjBoolBytesUptoCard : Claim7 := { stood := { row := fnFjBoolBytesUptoRow, standIns := [], harness := (true, "e916fee040c27cab294793600ec34cd43b65a98ecec10b7c58168bc8e6a979eb"), looks := true }, kinds := [], alts := [], laidByText := true, laidKinds := [.data, .data, .data, .sentinel, .sentinel], laidTests := true, laidLooks := .later }
def FnFjBoolBytesUptoCardSaid : Prop := Claim7.holds Tryd.pinned (.plain (OpenSpec.upto fnFjBoolBytesSpec)) fnFjBoolBytesUptoCard

/-- THE SECOND FORM's CARD OF 'laws.FnFjGetBool'. -/
def fnFjGetBoolUptoCard : Claim7 := { stood := { row := fnFjGetBoolUptoRow, standIns := [], harness := (true, "e916fee040c27cab294793600ec34cd43b65a98ecec10b7c58168bc8e6a979eb"), looks := true }, kinds := [], alts := [], laidByText := true, laidKinds := [.data, .data, .data, .sentinel, .sentinel], laidTests := true, laidLooks := .later }
def FnFjGetBoolUptoCardSaid : Prop := Claim7.holds Tryd.pinned (.plain (OpenSpec.upto fnFjGetBoolSpec)) fnFjGetBoolUptoCard
end Rows
end Go.Proofs.YtkpnomdmnhhaoaaDoor

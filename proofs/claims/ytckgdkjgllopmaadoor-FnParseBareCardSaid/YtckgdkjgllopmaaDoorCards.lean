/-
  DERIVED. GIVEN WITH THE SEED: THE CARDS: each row of YtckgdkjgllopmaaDoorRows.lean that lists a variable, with what it lists TIED to the program's text (the seventh form; the later family's looks); each row that meets fmt, with fmt's text TOLD by the authors' own Lean function (tested against real Go, not proved from fmt's source: count such statements apart). THE CARD IS WHAT COUNTS. Prove the row's statement (the work); the ties are given (YtckgdkjgllopmaaDoorTie.lean); close each card by the builder's one call (the guide's Derived/Test/ToyasCard.lean, 'card_holds'). Laid BY PROGRAM, IN A SANDBOX (cutbox-door.mjs). By AI agents, Wed Nov 11 2026. No macro, syntax, notation, axiom, sorry.
-/
import Derived.Test.YtckgdkjgllopmaaDoorRows
import GoSem.ClaimSeven
namespace Go.Proofs.YtckgdkjgllopmaaDoor
namespace Rows

/-- THE TIED CARD OF 'laws.FnFromUTF16'. -/
def fnFromUTF16Card : Claim7 := { stood := { row := fnFromUTF16Row, standIns := [], harness := (true, "6c553b78f8d02cc3e90515a8fed863709320e21563e5aea04ba736ad04c5ee09"), looks := true }, kinds := [], alts := [], laidByText := true, laidKinds := [.data, .pinned], laidTests := true, laidLooks := .later }
def FnFromUTF16CardSaid : Prop := Claim7.holds Tryd.pinned (.plain (OpenSpec.ofChange fnFromUTF16Spec)) fnFromUTF16Card

/-- THE TIED CARD OF 'laws.FnParse'. -/
def fnParseCard : Claim7 := { stood := { row := fnParseRow, standIns := [], harness := (true, "6c553b78f8d02cc3e90515a8fed863709320e21563e5aea04ba736ad04c5ee09"), looks := true }, kinds := [], alts := [], laidByText := true, laidKinds := [.data, .data, .data, .data, .sentinel, .sentinel, .pinned], laidTests := true, laidLooks := .later }
def FnParseCardSaid : Prop := Claim7.holds Tryd.pinned (.plain (OpenSpec.ofChange fnParseSpec)) fnParseCard

/-- THE TIED CARD OF 'laws.FnParseBare'. -/
def fnParseBareCard : Claim7 := { stood := { row := fnParseBareRow, standIns := [], harness := (true, "6c553b78f8d02cc3e90515a8fed863709320e21563e5aea04ba736ad04c5ee09"), looks := true }, kinds := [], alts := [], laidByText := true, laidKinds := [.data, .data, .data, .data, .sentinel, .sentinel, .pinned], laidTests := true, laidLooks := .later }
def FnParseBareCardSaid : Prop := Claim7.holds Tryd.pinned (.plain (OpenSpec.ofChange fnParseBareSpec)) fnParseBareCard

/-- THE SECOND FORM's CARD OF 'laws.FnFromUTF16'. -/
def fnFromUTF16UptoCard : Claim7 := { stood := { row := fnFromUTF16UptoRow, standIns := [], harness := (true, "6c553b78f8d02cc3e90515a8fed863709320e21563e5aea04ba736ad04c5ee09"), looks := true }, kinds := [], alts := [], laidByText := true, laidKinds := [.data, .pinned], laidTests := true, laidLooks := .later }
def FnFromUTF16UptoCardSaid : Prop := Claim7.holds Tryd.pinned (.plain (OpenSpec.upto fnFromUTF16Spec)) fnFromUTF16UptoCard

/-- THE SECOND FORM's CARD OF 'laws.FnParse'. -/
def fnParseUptoCard : Claim7 := { stood := { row := fnParseUptoRow, standIns := [], harness := (true, "6c553b78f8d02cc3e90515a8fed863709320e21563e5aea04ba736ad04c5ee09"), looks := true }, kinds := [], alts := [], laidByText := true, laidKinds := [.data, .data, .data, .data, .sentinel, .sentinel, .pinned], laidTests := true, laidLooks := .later }
def FnParseUptoCardSaid : Prop := Claim7.holds Tryd.pinned (.plain (OpenSpec.upto fnParseSpec)) fnParseUptoCard

/-- THE SECOND FORM's CARD OF 'laws.FnParseBare'. -/
def fnParseBareUptoCard : Claim7 := { stood := { row := fnParseBareUptoRow, standIns := [], harness := (true, "6c553b78f8d02cc3e90515a8fed863709320e21563e5aea04ba736ad04c5ee09"), looks := true }, kinds := [], alts := [], laidByText := true, laidKinds := [.data, .data, .data, .data, .sentinel, .sentinel, .pinned], laidTests := true, laidLooks := .later }
def FnParseBareUptoCardSaid : Prop := Claim7.holds Tryd.pinned (.plain (OpenSpec.upto fnParseBareSpec)) fnParseBareUptoCard
end Rows
end Go.Proofs.YtckgdkjgllopmaaDoor

/-
  DERIVED. GIVEN WITH THE SEED: THE CARDS: each row of YtgegialfhkgggaaGreatDoorRows.lean that lists a variable, with what it lists TIED to the program's text (the seventh form; the later family's looks); each row that meets fmt, with fmt's text TOLD by the authors' own Lean function (tested against real Go, not proved from fmt's source: count such statements apart). THE CARD IS WHAT COUNTS. Prove the row's statement (the work); the ties are given (YtgegialfhkgggaaGreatDoorTie.lean); close each card by the builder's one call (the guide's Derived/Test/ToyasCard.lean, 'card_holds'). Laid BY PROGRAM, IN A SANDBOX (cutbox-door.mjs). By AI agents, Wed Nov 11 2026. No macro, syntax, notation, axiom, sorry.
-/
import Derived.Test.YtgegialfhkgggaaGreatDoorRows
import GoSem.ClaimSeven
namespace Go.Proofs.YtgegialfhkgggaaGreatDoor
namespace Rows

/-- THE TIED CARD OF 'laws.FnNoEdits'. -/
def fnNoEditsCard : Claim7 := { stood := { row := fnNoEditsRow, standIns := [], harness := (true, "8d92a013be069464f1b1976b1e50444c83f91a9fd74a1201433a8ae977e26416"), looks := false }, kinds := [], alts := [], laidByText := true, laidKinds := [.data, .data, .data], laidTests := true, laidLooks := .later }
def FnNoEditsCardSaid : Prop := Claim7.holds Tryz.pinned (.plain (OpenSpec.ofChange fnNoEditsSpec)) fnNoEditsCard

/-- THE TIED CARD OF 'laws.FnUnified'. -/
def fnUnifiedCard : Claim7 := { stood := { row := fnUnifiedRow, standIns := [], harness := (true, "8d92a013be069464f1b1976b1e50444c83f91a9fd74a1201433a8ae977e26416"), looks := false }, kinds := [], alts := [], laidByText := true, laidKinds := [.data, .data, .data], laidTests := true, laidLooks := .later }
def FnUnifiedCardSaid : Prop := Claim7.holds Tryz.pinned (.plain (OpenSpec.ofChange fnUnifiedSpec)) fnUnifiedCard

/-- THE TIED CARD OF 'laws.FnUnifiedEdits'. -/
def fnUnifiedEditsCard : Claim7 := { stood := { row := fnUnifiedEditsRow, standIns := [], harness := (true, "8d92a013be069464f1b1976b1e50444c83f91a9fd74a1201433a8ae977e26416"), looks := false }, kinds := [], alts := [], laidByText := true, laidKinds := [.data, .data, .data], laidTests := true, laidLooks := .later }
def FnUnifiedEditsCardSaid : Prop := Claim7.holds Tryz.pinned (.plain (OpenSpec.ofChange fnUnifiedEditsSpec)) fnUnifiedEditsCard

/-- THE SECOND FORM's CARD OF 'laws.FnNoEdits'. -/
def fnNoEditsUptoCard : Claim7 := { stood := { row := fnNoEditsUptoRow, standIns := [], harness := (true, "8d92a013be069464f1b1976b1e50444c83f91a9fd74a1201433a8ae977e26416"), looks := false }, kinds := [], alts := [], laidByText := true, laidKinds := [.data, .data, .data], laidTests := true, laidLooks := .later }
def FnNoEditsUptoCardSaid : Prop := Claim7.holds Tryz.pinned (.plain (OpenSpec.upto fnNoEditsSpec)) fnNoEditsUptoCard

/-- THE SECOND FORM's CARD OF 'laws.FnUnified'. -/
def fnUnifiedUptoCard : Claim7 := { stood := { row := fnUnifiedUptoRow, standIns := [], harness := (true, "8d92a013be069464f1b1976b1e50444c83f91a9fd74a1201433a8ae977e26416"), looks := false }, kinds := [], alts := [], laidByText := true, laidKinds := [.data, .data, .data], laidTests := true, laidLooks := .later }
def FnUnifiedUptoCardSaid : Prop := Claim7.holds Tryz.pinned (.plain (OpenSpec.upto fnUnifiedSpec)) fnUnifiedUptoCard

/-- THE SECOND FORM's CARD OF 'laws.FnUnifiedEdits'. -/
def fnUnifiedEditsUptoCard : Claim7 := { stood := { row := fnUnifiedEditsUptoRow, standIns := [], harness := (true, "8d92a013be069464f1b1976b1e50444c83f91a9fd74a1201433a8ae977e26416"), looks := false }, kinds := [], alts := [], laidByText := true, laidKinds := [.data, .data, .data], laidTests := true, laidLooks := .later }
def FnUnifiedEditsUptoCardSaid : Prop := Claim7.holds Tryz.pinned (.plain (OpenSpec.upto fnUnifiedEditsSpec)) fnUnifiedEditsUptoCard
end Rows
end Go.Proofs.YtgegialfhkgggaaGreatDoor

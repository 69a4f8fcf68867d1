/-
  DERIVED. GIVEN WITH THE SEED: THE CARDS: each row of YtpmggjplfcjkkaaGreatDoorRows.lean that lists a variable, with what it lists TIED to the program's text (the seventh form; the later family's looks); each row that meets fmt, with fmt's text TOLD by the authors' own Lean function (tested against real Go, not proved from fmt's source: count such statements apart). THE CARD IS WHAT COUNTS. Prove the row's statement (the work); the ties are given (YtpmggjplfcjkkaaGreatDoorTie.lean); close each card by the builder's one call (the guide's Derived/Test/ToyasCard.lean, 'card_holds'). Laid BY PROGRAM, IN A SANDBOX (cutbox-door.mjs). By AI agents, Wed Nov 11 2026. No macro, syntax, notation, axiom, sorry.
-/
import Derived.Test.YtpmggjplfcjkkaaGreatDoorRows
import GoSem.ClaimSeven
namespace Go.Proofs.YtpmggjplfcjkkaaGreatDoor
namespace Rows

/-- THE TIED CARD OF 'laws.FnJMultiple'. -/
def fnJMultipleCard : Claim7 := { stood := { row := fnJMultipleRow, standIns := [], harness := (true, "386b1d2d92c75de64d4f29cd9676931732af15904d59f64f8a934ce9fae4a526"), looks := true }, kinds := [], alts := [], laidByText := true, laidKinds := [.data, .data, .data, .sentinel, .sentinel, .sentinel, .sentinel, .sentinel, .data, .data, .data, .data], laidTests := true, laidLooks := .later }
def FnJMultipleCardSaid : Prop := Claim7.holds Tryz.pinned (.plain (OpenSpec.ofChange fnJMultipleSpec)) fnJMultipleCard

/-- THE TIED CARD OF 'laws.FnJSameWritten'. -/
def fnJSameWrittenCard : Claim7 := { stood := { row := fnJSameWrittenRow, standIns := [], harness := (true, "386b1d2d92c75de64d4f29cd9676931732af15904d59f64f8a934ce9fae4a526"), looks := true }, kinds := [], alts := [], laidByText := true, laidKinds := [.data, .data, .data, .sentinel, .sentinel, .sentinel, .sentinel, .sentinel, .data, .data, .data, .data], laidTests := true, laidLooks := .later }
def FnJSameWrittenCardSaid : Prop := Claim7.holds Tryz.pinned (.plain (OpenSpec.ofChange fnJSameWrittenSpec)) fnJSameWrittenCard

/-- THE SECOND FORM's CARD OF 'laws.FnJMultiple'. -/
def fnJMultipleUptoCard : Claim7 := { stood := { row := fnJMultipleUptoRow, standIns := [], harness := (true, "386b1d2d92c75de64d4f29cd9676931732af15904d59f64f8a934ce9fae4a526"), looks := true }, kinds := [], alts := [], laidByText := true, laidKinds := [.data, .data, .data, .sentinel, .sentinel, .sentinel, .sentinel, .sentinel, .data, .data, .data, .data], laidTests := true, laidLooks := .later }
def FnJMultipleUptoCardSaid : Prop := Claim7.holds Tryz.pinned (.plain (OpenSpec.upto fnJMultipleSpec)) fnJMultipleUptoCard

/-- THE SECOND FORM's CARD OF 'laws.FnJSameWritten'. -/
def fnJSameWrittenUptoCard : Claim7 := { stood := { row := fnJSameWrittenUptoRow, standIns := [], harness := (true, "386b1d2d92c75de64d4f29cd9676931732af15904d59f64f8a934ce9fae4a526"), looks := true }, kinds := [], alts := [], laidByText := true, laidKinds := [.data, .data, .data, .sentinel, .sentinel, .sentinel, .sentinel, .sentinel, .data, .data, .data, .data], laidTests := true, laidLooks := .later }
def FnJSameWrittenUptoCardSaid : Prop := Claim7.holds Tryz.pinned (.plain (OpenSpec.upto fnJSameWrittenSpec)) fnJSameWrittenUptoCard
end Rows
end Go.Proofs.YtpmggjplfcjkkaaGreatDoor

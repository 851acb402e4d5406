/-
  DERIVED. GIVEN WITH THE SEED: THE CARDS: each row of YtmbeaohkcogohaaGreatDoorRows.lean that lists a variable, with what it lists TIED to the program's text (the seventh form; the later family's looks); each row that meets fmt, with fmt's text TOLD by the authors' own Lean function (tested against real Go, not proved from fmt's source: count such statements apart). THE CARD IS WHAT COUNTS. Prove the row's statement (the work); the ties are given (YtmbeaohkcogohaaGreatDoorTie.lean); close each card by the builder's one call (the guide's Derived/Test/ToyasCard.lean, 'card_holds'). Laid BY PROGRAM, IN A SANDBOX (cutbox-door.mjs). By AI agents, Wed Nov 11 2026. No macro, syntax, notation, axiom, sorry.
-/
import Derived.Test.YtmbeaohkcogohaaGreatDoorRows
import GoSem.ClaimSeven
namespace Go.Proofs.YtmbeaohkcogohaaGreatDoor
namespace Rows

/-- THE TIED CARD OF 'laws.FnParseSchema'. -/
def fnParseSchemaCard : Claim7 := { stood := { row := fnParseSchemaRow, standIns := [], harness := (true, "3fbfc74010aeed3f82843dc163c3925e726752050807cf9f20c074e0798f952b"), looks := false }, kinds := [], alts := [], laidByText := true, laidKinds := [.data, .sentinel, .pinned], laidTests := true, laidLooks := .later }
def FnParseSchemaCardSaid : Prop := Claim7.holds Tryz.pinned (.plain (OpenSpec.ofChange fnParseSchemaSpec)) fnParseSchemaCard

/-- THE SECOND FORM's CARD OF 'laws.FnParseSchema'. -/
def fnParseSchemaUptoCard : Claim7 := { stood := { row := fnParseSchemaUptoRow, standIns := [], harness := (true, "3fbfc74010aeed3f82843dc163c3925e726752050807cf9f20c074e0798f952b"), looks := false }, kinds := [], alts := [], laidByText := true, laidKinds := [.data, .sentinel, .pinned], laidTests := true, laidLooks := .later }
def FnParseSchemaUptoCardSaid : Prop := Claim7.holds Tryz.pinned (.plain (OpenSpec.upto fnParseSchemaSpec)) fnParseSchemaUptoCard
end Rows
end Go.Proofs.YtmbeaohkcogohaaGreatDoor

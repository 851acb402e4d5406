/-
  DERIVED. GIVEN WITH THE SEED: THE CARDS: each row of YtlnpifmdjcnflaaGreatDoorRows.lean that lists a variable, with what it lists TIED to the program's text (the seventh form; the later family's looks); each row that meets fmt, with fmt's text TOLD by the authors' own Lean function (tested against real Go, not proved from fmt's source: count such statements apart). THE CARD IS WHAT COUNTS. Prove the row's statement (the work); the ties are given (YtlnpifmdjcnflaaGreatDoorTie.lean); close each card by the builder's one call (the guide's Derived/Test/ToyasCard.lean, 'card_holds'). Laid BY PROGRAM, IN A SANDBOX (cutbox-door.mjs). By AI agents, Wed Nov 11 2026. No macro, syntax, notation, axiom, sorry.
-/
import Derived.Test.YtlnpifmdjcnflaaGreatDoorRows
import GoSem.ClaimSeven
namespace Go.Proofs.YtlnpifmdjcnflaaGreatDoor
namespace Rows

/-- THE TIED CARD OF 'laws.FnJTellType'. -/
def fnJTellTypeCard : Claim7 := { stood := { row := fnJTellTypeRow, standIns := [], harness := (true, "23dbcda343a7ee9558be49376cc9c735a8329fb9c781258ffcef6626841b520f"), looks := true }, kinds := [], alts := [], laidByText := true, laidKinds := [.data, .data, .data], laidTests := true, laidLooks := .later }
def FnJTellTypeCardSaid : Prop := Claim7.holds Tryz.pinned (.plain (OpenSpec.ofChange fnJTellTypeSpec)) fnJTellTypeCard

/-- THE SECOND FORM's CARD OF 'laws.FnJTellType'. -/
def fnJTellTypeUptoCard : Claim7 := { stood := { row := fnJTellTypeUptoRow, standIns := [], harness := (true, "23dbcda343a7ee9558be49376cc9c735a8329fb9c781258ffcef6626841b520f"), looks := true }, kinds := [], alts := [], laidByText := true, laidKinds := [.data, .data, .data], laidTests := true, laidLooks := .later }
def FnJTellTypeUptoCardSaid : Prop := Claim7.holds Tryz.pinned (.plain (OpenSpec.upto fnJTellTypeSpec)) fnJTellTypeUptoCard
end Rows
end Go.Proofs.YtlnpifmdjcnflaaGreatDoor

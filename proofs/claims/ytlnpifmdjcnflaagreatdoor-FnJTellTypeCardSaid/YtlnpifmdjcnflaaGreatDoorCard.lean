/- FnJTellType: for every list of type names and every JSON value the law of the command JTellType answers true, and the arguments read behind the call as they read before. Conditions: none on the arguments; the package-level tables that the card lists start as the text of the program lays them, as the card ties them. -/
import Derived.Test.YtlnpifmdjcnflaaGreatDoorS53
set_option linter.unusedVariables false
set_option linter.unusedSimpArgs false
namespace Go.Proofs.YtlnpifmdjcnflaaGreatDoor
open Go.ChangeShapes Go.WideShapes Go.ChangeAt Go.RowKit Go.Lib
open Go.ChangeMaps (open_string shut_string)
theorem card : Rows.FnJTellTypeCardSaid :=
  Claim7.holds_tied_plain_at .later [] _ _ _ _ said (fun _ h => by cases h) (by kernel_rfl) (fun _ h => by cases h) fnJTellType_row_tie rfl ⟨rfl, rfl⟩ (by kernel_rfl) rfl plain (by kernel_rfl)
end Go.Proofs.YtlnpifmdjcnflaaGreatDoor

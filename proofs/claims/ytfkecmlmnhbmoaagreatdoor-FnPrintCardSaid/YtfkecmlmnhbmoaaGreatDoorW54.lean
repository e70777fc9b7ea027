/- Proved: fnPrint_card, the given Rows.FnPrintCardSaid: for every object the call of laws.FnPrint returns true and leaves its argument as it was
(an object that is written to a file is an object of 7.3 and nothing else, and the same one).
Conditions: the row's own and no other (its cells loops, laid, recurses, unfollowed): the listed package-level variables start as the program's text lays them
(the card ties them; the tie is given). Part R6. -/
import Derived.Test.YtfkecmlmnhbmoaaGreatDoorW52
import Derived.Test.YtfkecmlmnhbmoaaGreatDoorW53
set_option linter.unusedVariables false
set_option linter.unusedSimpArgs false
set_option maxRecDepth 100000
set_option maxHeartbeats 40000000
namespace Go.Proofs.YtfkecmlmnhbmoaaGreatDoor
open Go Go.RowKit
theorem fnPrint_card:Rows.FnPrintCardSaid :=
 Claim7.holds_tied_plain_at .later [] _ _ _ _ said_print (fun _ h=>by cases h) wfb_print (fun _ h=>by cases h) fnPrint_row_tie rfl ⟨rfl,rfl⟩ main_print rfl plain_print goes_print
end Go.Proofs.YtfkecmlmnhbmoaaGreatDoor

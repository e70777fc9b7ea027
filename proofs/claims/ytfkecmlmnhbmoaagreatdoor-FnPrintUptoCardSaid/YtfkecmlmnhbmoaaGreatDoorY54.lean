/- The texts R6 of the workbench, laid together. -/
import Derived.Test.YtfkecmlmnhbmoaaGreatDoorProg
import Derived.WalkKit
import Derived.WalkLawsBesides
import Derived.WalkSpells
import Derived.BigQuiet
import Derived.BigRegion
import Derived.Deep.QuietTactic
import Derived.Deep.RegionHeld3
import Derived.Deep.LoopGhost
import Derived.StillTailTactics
import Derived.Lib.Hide
import Derived.Laws.EntriesVeiled
import Derived.Test.YtfkecmlmnhbmoaaGreatDoorY52
import Derived.Test.YtfkecmlmnhbmoaaGreatDoorY53
set_option linter.unusedVariables false
set_option linter.unusedSimpArgs false
namespace Go.Proofs.YtfkecmlmnhbmoaaGreatDoor
open Go Go.RowKit
theorem fnPrintUpto_card:Rows.FnPrintUptoCardSaid :=
 Claim7.holds_tied_plain_at .later [] _ _ _ _ said_print (fun _ h=>by cases h) wfb_print (fun _ h=>by cases h) fnPrintUpto_row_tie rfl ⟨rfl,rfl⟩ main_print rfl plain_print goes_print
end Go.Proofs.YtfkecmlmnhbmoaaGreatDoor

/- The card of FnParse. -/
import Derived.Test.YtfkecmlmnhbmoaaGreatDoorProg
import Derived.WalkKit
import Derived.WalkLawsBesides
import Derived.WalkSpells
import Derived.BigQuiet
import Derived.BigRegion
import Derived.Deep.QuietTactic
import Derived.Deep.RegionHeld3
import Derived.Deep.LoopGhost
import Derived.StillTailTactics
import Derived.Lib.Hide
import Derived.Laws.EntriesVeiled
import Derived.Test.YtfkecmlmnhbmoaaGreatDoorZ52
import Derived.Test.YtfkecmlmnhbmoaaGreatDoorZ54
set_option linter.unusedVariables false
set_option linter.unusedSimpArgs false
namespace Go.Proofs.YtfkecmlmnhbmoaaGreatDoor
open Go Go.RowKit
/-- the card -/
theorem fnParse_card : Rows.FnParseCardSaid :=
  Claim7.holds_tied_plain_at .later [] _ _ _ _ said_parse (fun _ h => by cases h) wfb_parse (fun _ h => by cases h) fnParse_row_tie rfl ⟨rfl, rfl⟩ main_parse rfl plain_parse goes_parse
end Go.Proofs.YtfkecmlmnhbmoaaGreatDoor

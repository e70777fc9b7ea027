/- Proved: fnParse_card, the given Rows.FnParseCardSaid: for every text the call of laws.FnParse returns true and leaves its argument as it was
(a text that begins with an object of 7.3 is parsed as that object, and what stands behind the object is the rest).
Conditions: the row's own and no other (its cells ifaces, laid, recurses, unfollowed): the listed package-level variables start as the program's text lays them
(the card ties them; the tie is given). -/
import Derived.Test.YtfkecmlmnhbmoaaGreatDoorProg
import Derived.WalkKit
import Derived.WalkLawsBesides
import Derived.WalkSpells
import Derived.BigQuiet
import Derived.BigRegion
import Derived.Deep.QuietTactic
import Derived.Deep.RegionHeld3
import Derived.Deep.LoopGhost
import Derived.StillTailTactics
import Derived.Lib.Hide
import Derived.Laws.EntriesVeiled
import Derived.Test.YtfkecmlmnhbmoaaGreatDoorZ52
import Derived.Test.YtfkecmlmnhbmoaaGreatDoorZ54
set_option linter.unusedVariables false
set_option linter.unusedSimpArgs false
namespace Go.Proofs.YtfkecmlmnhbmoaaGreatDoor
open Go Go.RowKit
/-- the card -/
theorem fnParse_card : Rows.FnParseCardSaid :=
  Claim7.holds_tied_plain_at .later [] _ _ _ _ said_parse (fun _ h => by cases h) wfb_parse (fun _ h => by cases h) fnParse_row_tie rfl ⟨rfl, rfl⟩ main_parse rfl plain_parse goes_parse
end Go.Proofs.YtfkecmlmnhbmoaaGreatDoor

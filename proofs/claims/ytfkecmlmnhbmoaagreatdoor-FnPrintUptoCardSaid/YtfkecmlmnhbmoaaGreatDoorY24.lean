/- The texts G7 G8 G9 G5 G10 G11 G12 G13 of the workbench, laid together. -/
import Derived.Test.YtfkecmlmnhbmoaaGreatDoorProg
import Derived.WalkKit
import Derived.WalkLawsBesides
import Derived.WalkSpells
import Derived.BigQuiet
import Derived.BigRegion
import Derived.Deep.QuietTactic
import Derived.Deep.RegionHeld3
import Derived.Deep.LoopGhost
import Derived.StillTailTactics
import Derived.Lib.Hide
import Derived.Laws.EntriesVeiled
import Derived.Lib.ConvBytes
import Derived.Test.YtfkecmlmnhbmoaaGreatDoorY20
import Derived.Test.YtfkecmlmnhbmoaaGreatDoorY21
set_option linter.unusedVariables false
set_option linter.unusedSimpArgs false
namespace Go.Proofs.YtfkecmlmnhbmoaaGreatDoor
open Go Go.RowKit
end Go.Proofs.YtfkecmlmnhbmoaaGreatDoor
namespace Go.Proofs.YtfkecmlmnhbmoaaGreatDoor
open Go Go.RowKit
end Go.Proofs.YtfkecmlmnhbmoaaGreatDoor
namespace Go.Proofs.YtfkecmlmnhbmoaaGreatDoor
open Go Go.RowKit
end Go.Proofs.YtfkecmlmnhbmoaaGreatDoor
namespace Go.Proofs.YtfkecmlmnhbmoaaGreatDoor
open Go Go.RowKit
end Go.Proofs.YtfkecmlmnhbmoaaGreatDoor
namespace Go.Proofs.YtfkecmlmnhbmoaaGreatDoor
open Go Go.RowKit
end Go.Proofs.YtfkecmlmnhbmoaaGreatDoor
namespace Go.Proofs.YtfkecmlmnhbmoaaGreatDoor
open Go Go.RowKit
end Go.Proofs.YtfkecmlmnhbmoaaGreatDoor
namespace Go.Proofs.YtfkecmlmnhbmoaaGreatDoor
open Go Go.RowKit
end Go.Proofs.YtfkecmlmnhbmoaaGreatDoor
namespace Go.Proofs.YtfkecmlmnhbmoaaGreatDoor
open Go Go.RowKit
end Go.Proofs.YtfkecmlmnhbmoaaGreatDoor

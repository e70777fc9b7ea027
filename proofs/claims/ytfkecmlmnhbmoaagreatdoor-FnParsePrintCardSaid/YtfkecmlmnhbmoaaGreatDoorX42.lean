/- Parts D10. -/
import Derived.Test.YtfkecmlmnhbmoaaGreatDoorX35
import Derived.Test.YtfkecmlmnhbmoaaGreatDoorX41
set_option linter.unusedVariables false
set_option linter.unusedSimpArgs false
set_option maxRecDepth 100000
set_option maxHeartbeats 40000000
namespace Go.Proofs.YtfkecmlmnhbmoaaGreatDoor
open Go Go.RowKit Go.Maps
section
variable (i g:Int) (r:Nat) (z:ByteArray) (ko vo:Option Addr) (kn kc vn vc:Nat) (w:World)
end
end Go.Proofs.YtfkecmlmnhbmoaaGreatDoor
